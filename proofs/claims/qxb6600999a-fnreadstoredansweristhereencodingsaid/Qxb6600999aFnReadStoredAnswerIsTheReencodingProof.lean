/-
  FnReadStoredAnswerIsTheReencoding: the frame was written by the kit's program, turned to 'Below' (the call makes memory of its own); the walk is ours.
-/
import Derived.Test.Qxb6600999aRows
import Derived.WalkKit
import Derived.ProofKit
import Derived.OpenShut
import Derived.ShutString
import Derived.ChangeOld
import Derived.Below
import Derived.Test.Qxb6600999aRe3
namespace Go.Proofs.Qxb6600999a.fnReadStoredAnswerIsTheReencoding
open Go.ChangeShapes Go.WideShapes Go.ChangeAt Go.RowKit Go.Proofs.Qxb6600999a.Plain
open Go.ChangeMaps (open_string shut_string)
set_option linter.unusedVariables false      -- a walk need not use every 'w<i>' (that an integer argument fits its kind)

theorem own : ownKnob Try.prog.godebug = none := by kernel_rfl

/-! ### STEP 1: THE WALK: the Go text returns true. 'Grown w w'': the world has at most new blocks (Derived/RowKit3.lean). Part the cases AHEAD of 'go_enter' where a test parts the walk; take each callee by a contract of your own. -/
set_option maxRecDepth 100000 in
theorem walk (a0 : ByteArray) (w0 : a0.size ≤ maxLen) (w : World) :
    Calls Try.prog 3 #[.string a0] w fun e w' => e = .returned (.bool true) ∧ Below w.heap.size w w' := by
  unfold maxLen at w0
  by_cases hs : a0.size ≤ 1048576
  · by_cases h0 : 0 < a0.size
    · have hb8 := a0[0].toNat_lt
      have hB : hdr a0 = a0[0].toNat := by unfold hdr; rw [W.byte_at a0 0 h0]
      have hN : nOf a0 = a0[0].toNat % 16 := by unfold nOf; rw [hB]
      have hK : kOf a0 = a0[0].toNat / 16 := by unfold kOf; rw [hB]
      obtain ⟨b, hb⟩ : ∃ b : Nat, a0[0].toNat = b := ⟨_, rfl⟩
      rw [hb] at hB hN hK hb8
      obtain ⟨n, hn⟩ : ∃ n : Nat, n = b % 16 := ⟨_, rfl⟩
      obtain ⟨q, hq⟩ : ∃ q : Nat, q = b / 16 := ⟨_, rfl⟩
      have hN' : nOf a0 = n := by rw [hN, hn]
      have hK' : kOf a0 = q := by rw [hK, hq]
      have hr : (b : Int) % 16 = (n : Int) := by omega
      have hqi : (b : Int) / 16 = (q : Int) := by omega
      by_cases hn8 : n ≤ 8
      · by_cases hns : n < a0.size
        · have hf : framed a0 := ⟨h0, by rw [hN']; exact hn8, by rw [hN']; exact hns⟩
          rcases (show q = 0 ∨ q = 1 ∨ q = 2 ∨ q = 3 ∨ 3 < q from by omega) with h | h | h | h | h
          · by_cases hn0 : 0 < n
            · exact W.re_null_no a0 w hs h0 b n hb (by omega) hr hn0 hn8 hns hf (by rw [hK', h]; rfl) hN'
            · exact W.re_null a0 w hs h0 b hb (by omega) (by omega) hf (by rw [hK', h]; rfl) (by rw [hN']; exact (show n = 0 by omega))
          · exact W.re_int a0 w hs h0 b n hb (by omega) hr hn8 hns hf (by rw [hK', h]; rfl) hN'
          · by_cases hle : uOf a0 ≤ (restOf a0).size
            · exact W.re_text a0 w hs h0 b n hb (by omega) hr hn8 hns hf (by rw [hK', h]; rfl) hN' hle
            · exact W.re_long a0 w hs h0 b n hb (by omega) hr hn8 hns hf (by rw [hK', h]; rfl) hN' (Nat.not_le.1 hle)
          · exact W.re_bool a0 w hs h0 b n hb (by omega) hr hn8 hns hf (by rw [hK', h]; rfl) hN'
          · exact W.re_other a0 w hs h0 b n hb q hqi h (by omega) hr hn8 hns hf hK'
        · exact W.re_short a0 w hs h0 b n hb hr hn8 (by omega) (fun hf => by have := hf.2.2; rw [hN'] at this; omega)
      · exact W.re_wide a0 w hs h0 b n hb hr (by omega) (fun hf => by have := hf.2.1; rw [hN'] at this; omega)
    · exact W.re_empty a0 w hs (show a0.size = 0 by omega) (fun hf => by have := hf.1; omega)
  · go_enter Try.func3, Try.ntmps3
    go_wp2
    go_ret
    exact ⟨rfl, Below.refl _ _⟩

/-! ### THE ROW's STEP: WRITTEN OUT: LEAVE IT -/
set_option maxRecDepth 100000 in
theorem lifted (os : Os) (started : os.Started) (H : Type) (enc : TypeId × Value → H) :
    ReturnsInHanded {} Try.checked os 3 .any (Rows.fnReadStoredAnswerIsTheReencodingSpec.pre6 enc Try.prog Try.f3 Rows.fnReadStoredAnswerIsTheReencodingRow.domain false) (Rows.fnReadStoredAnswerIsTheReencodingSpec.post enc Try.prog Try.f3 false true false false) := by
  refine returnsInHanded_of_change (C := Try.checked) own started (by kernel_rfl) Try.func3
    (ChangeSpec.witness6 (enc := enc) (C := Try.checked) false ⟨#[], #[.string ByteArray.empty], []⟩ 8 (by kernel_rfl) (by kernel_rfl) (by kernel_rfl) (by kernel_rfl)) ?_
  intro W base args ds gs before hval0 hW hcnd _
  have hval : ∀ (j : Nat) t v, Try.f3.params[j]? = some t → args[j]? = some v → Value.okWide Try.prog W .any base t v := hval0
  have hW' := hW
  obtain ⟨p, q, hA0, hV, rfl, hfz, hnd⟩ := hW
  have hA : DataW.TrodAll enc Try.prog W 0 (fun _ => true) true Try.f3.params.toList args.toList ds p := hA0
  rw [Try.params3] at hA hval
  obtain ⟨v0, vs0, d0, ds0, p0, q0, hargs, rfl, rfl, h0, r0⟩ := trodAll_cons hA
  obtain ⟨rfl, rfl, rfl⟩ := trodAll_nil r0
  obtain rfl : args = #[v0] := by cases args; simp_all
  obtain ⟨rfl, rfl⟩ := trodVars_none hV
  obtain ⟨a0, rfl, rfl, rfl, w0⟩ := open_string Try.underlying9 (hval 0 9 v0 rfl rfl) h0
  clear hA0 hval0
  simp only [List.append_nil] at hW'
  refine (walk a0 w0 W).mono fun e W' ⟨he, bel⟩ => ?_
  subst he
  exact ⟨_, rfl, _, _, _, [], _, [], hW', trodAll_mk1 (shut_bool Try.underlying4 _), (trodAll_cons_mk (shut_string Try.underlying9 w0) trodAll_mk0), rfl, bel.frame _, fun h => by cases h⟩

theorem over : Rows.fnReadStoredAnswerIsTheReencodingRow.holds Try.pinned (OpenSpec.ofChange Rows.fnReadStoredAnswerIsTheReencodingSpec) :=
  OpenClaim.holds_of_wide 3 Try.f3 rfl rfl rfl rfl rfl rfl rfl ⟨rfl, rfl, rfl, rfl, rfl⟩ rfl rfl rfl rfl rfl (by kernel_rfl) Try.func3 (by kernel_rfl)
    (of_decide_eq_true (by kernel_rfl)) (by unfold Func.isWrapper; first | (rw [if_pos (by decide +kernel)]; kernel_rfl) | (rw [if_neg (by decide +kernel)]; exact ⟨rfl, rfl⟩))
    (fun os started H enc _ => lifted os started H enc)

/-- ████ THE STATEMENT ████ -/
theorem proved : Rows.FnReadStoredAnswerIsTheReencodingSaid :=
  over
#print axioms proved
end Go.Proofs.Qxb6600999a.fnReadStoredAnswerIsTheReencoding
