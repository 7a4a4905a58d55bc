/-
  FnStagedRowFindsEveryStagedKeyInBothForms: the frame of slices of bytes, of int64s and of strings; the walk is ours.
-/
import Derived.Test.Qxb6600999aRows
import Derived.WalkKit
import Derived.ProofKit
import Derived.OpenShut
import Derived.ShutString
import Derived.SliceStrings
import Derived.ChangeOld
import Derived.Below
import Derived.Test.Qxb6600999aArg7
namespace Go.Proofs.Qxb6600999a.fnStagedRowFindsEveryStagedKeyInBothForms
open Go.ChangeShapes Go.WideShapes Go.ChangeAt Go.RowKit Go.Proofs.Qxb6600999a.W
set_option linter.unusedVariables false

theorem own : ownKnob Try.prog.godebug = none := by kernel_rfl
theorem laidOut : laidOutB Try.prog = true := by kernel_rfl

/-! ### THE WALK -/
theorem walk (s0 : List Int) (a0 : Option Addr) (c0 : Nat) (s1 : List Int) (a1 : Option Addr) (c1 : Nat) (s2 : List ByteArray) (a2 : Option Addr) (c2 : Nat) (w : World)
    (w0 : IsU8s w a0 s0) (w1 : IsInts w a1 s1) (w2 : IsStrs w a2 s2)
    (k0 : NilOk a0 s0.length) (k1 : NilOk a1 s1.length) (k2 : NilOk a2 s2.length)
    (m0 : s0.length ≤ 9223372036854775807) (m1 : s1.length ≤ 9223372036854775807) (m2 : s2.length ≤ 9223372036854775807)
    (f0 : ∀ i, i < s0.length → (Lit.int .u8 (s0[i]?.getD 0)).wf = true) (f1 : ∀ i, i < s1.length → (Lit.int .i64 (s1[i]?.getD 0)).wf = true) (f2 : ∀ i, i < s2.length → (s2[i]?.getD ByteArray.empty).size ≤ maxLen) :
    Calls Try.prog 7 #[.slice a0 s0.length c0, .slice a1 s1.length c1, .slice a2 s2.length c2] w fun e w' => e = .returned (.bool true) ∧ Below w.heap.size w w' := by
  by_cases hbig : 4096 < s0.length ∨ 4096 < s1.length ∨ 4096 < s2.length
  · exact law7_big s2 s0.length s1.length a0 a1 a2 c0 c1 c2 w w2 m2 m0 m1 hbig
  · exact law7 s0 s1 s2 a0 a1 a2 c0 c1 c2 w w0 w1 w2 k0 k1 k2 (by omega) (by omega) (by omega) (fun j h0 h1 h2 => key_mk _ _ _ (f0 j h0) (f1 j h1) (f2 j h2))

/-! ### THE ROW's STEP -/
set_option maxRecDepth 100000 in
theorem lifted (os : Os) (started : os.Started) (H : Type) (enc : TypeId × Value → H) :
    ReturnsInHanded {} Try.checked os 7 .any (Rows.fnStagedRowFindsEveryStagedKeyInBothFormsSpec.pre6 enc Try.prog Try.f7 Rows.fnStagedRowFindsEveryStagedKeyInBothFormsRow.domain false) (Rows.fnStagedRowFindsEveryStagedKeyInBothFormsSpec.post enc Try.prog Try.f7 false true false false) := by
  refine returnsInHanded_of_change (C := Try.checked) own started (by kernel_rfl) Try.func7
    (ChangeSpec.witness6 (enc := enc) (C := Try.checked) false ⟨#[], #[.slice none 0 0, .slice none 0 0, .slice none 0 0], []⟩ 8 (by kernel_rfl) (by kernel_rfl) (by kernel_rfl) (by kernel_rfl)) ?_
  intro W base args ds gs before hval0 hW hcnd _
  have hval : ∀ (j : Nat) t v, Try.f7.params[j]? = some t → args[j]? = some v → Value.okWide Try.prog W .any base t v := hval0
  have hW' := hW
  obtain ⟨p, q, hA0, hV, rfl, hfz, hnd⟩ := hW
  have hA : DataW.TrodAll enc Try.prog W 0 (fun _ => true) true Try.f7.params.toList args.toList ds p := hA0
  rw [Try.params7] at hA hval
  obtain ⟨v0, vs0, d0, ds0, p0, q0, hargs, rfl, rfl, h0, r0⟩ := trodAll_cons hA
  obtain ⟨v1, vs1, d1, ds1, p1, q1, rfl, rfl, rfl, h1, r1⟩ := trodAll_cons r0
  obtain ⟨v2, vs2, d2, ds2, p2, q2, rfl, rfl, rfl, h2, r2⟩ := trodAll_cons r1
  obtain ⟨rfl, rfl, rfl⟩ := trodAll_nil r2
  obtain rfl : args = #[v0, v1, v2] := by cases args; simp_all
  obtain ⟨rfl, rfl⟩ := trodVars_none hV
  obtain ⟨a0, len0, cap0, rfl⟩ := okWide_slice Try.underlying26 (hval 0 26 v0 rfl rfl)
  obtain ⟨a1, len1, cap1, rfl⟩ := okWide_slice Try.underlying34 (hval 1 34 v1 rfl rfl)
  obtain ⟨a2, len2, cap2, rfl⟩ := okWide_slice Try.underlying35 (hval 2 35 v2 rfl rfl)
  have k0 := h0
  have lt0 : ∀ x ∈ p0, x.block < W.heap.size := by obtain ⟨m, hm⟩ := k0; exact DataW.trod_lt m _ _ _ hm
  have k1 := h1
  have lt1 : ∀ x ∈ p1, x.block < W.heap.size := by obtain ⟨m, hm⟩ := k1; exact DataW.trod_lt m _ _ _ hm
  have k2 := h2
  have lt2 : ∀ x ∈ p2, x.block < W.heap.size := by obtain ⟨m, hm⟩ := k2; exact DataW.trod_lt m _ _ _ hm
  obtain ⟨s0, rfl, w0, n0, f0, m0⟩ : ∃ ss : List Int, ss.length = len0 ∧ IsU8s W a0 ss ∧ NilOk a0 ss.length ∧ (∀ i, i < ss.length → (Lit.int .u8 (ss[i]?.getD 0)).wf = true) ∧ ss.length ≤ maxLen := by
    obtain ⟨fuel, hf⟩ := h0
    rcases open_ints Try.underlying26 Try.underlying5 (by kernel_rfl) hf with ⟨hcs, _⟩ | ⟨x, l, c, ss, hcs, _, hl, hm, hz, _, hcell, hwz⟩
    · simp [Value.cells] at hcs
      obtain ⟨rfl, rfl, rfl⟩ := hcs
      exact ⟨[], rfl, fun h => by simp at h, fun _ => rfl, fun i hi => by simp at hi, by simp⟩
    · simp [Value.cells] at hcs
      obtain ⟨rfl, rfl, rfl⟩ := hcs
      have hz' : ss.length = _ := hz
      simp only [if_true] at hz'
      obtain ⟨ts, t1, t2, t3, t4⟩ := u8s_take7 (by rw [hz']; exact hl) hcell hwz
      exact ⟨ts, t1, t2, t3, t4, by rw [t1]; omega⟩
  obtain ⟨s1, rfl, w1, n1, f1, m1⟩ : ∃ ss : List Int, ss.length = len1 ∧ IsInts W a1 ss ∧ NilOk a1 ss.length ∧ (∀ i, i < ss.length → (Lit.int .i64 (ss[i]?.getD 0)).wf = true) ∧ ss.length ≤ maxLen := by
    obtain ⟨fuel, hf⟩ := h1
    rcases open_ints Try.underlying34 Try.underlying2 (by kernel_rfl) hf with ⟨hcs, _⟩ | ⟨x, l, c, ss, hcs, _, hl, hm, hz, _, hcell, hwz⟩
    · simp [Value.cells] at hcs
      obtain ⟨rfl, rfl, rfl⟩ := hcs
      exact ⟨[], rfl, fun h => by simp at h, fun _ => rfl, fun i hi => by simp at hi, by simp⟩
    · simp [Value.cells] at hcs
      obtain ⟨rfl, rfl, rfl⟩ := hcs
      have hz' : ss.length = _ := hz
      simp only [if_true] at hz'
      obtain ⟨ts, t1, t2, t3, t4⟩ := ints_take7 (by rw [hz']; exact hl) hcell hwz
      exact ⟨ts, t1, t2, t3, t4, by rw [t1]; omega⟩
  obtain ⟨s2, rfl, w2, n2, f2, m2⟩ : ∃ ss : List ByteArray, ss.length = len2 ∧ IsStrs W a2 ss ∧ NilOk a2 ss.length ∧ (∀ i, i < ss.length → (ss[i]?.getD ByteArray.empty).size ≤ maxLen) ∧ ss.length ≤ maxLen := by
    obtain ⟨fuel, hf⟩ := h2
    rcases open_strings Try.underlying35 Try.underlying9 (by kernel_rfl) hf with ⟨hcs, _⟩ | ⟨x, l, c, ss, hcs, _, hl, hm, hz, _, hcell, hwz⟩
    · simp [Value.cells] at hcs
      obtain ⟨rfl, rfl, rfl⟩ := hcs
      exact ⟨[], rfl, fun h => by simp at h, fun _ => rfl, fun i hi => by simp at hi, by simp⟩
    · simp [Value.cells] at hcs
      obtain ⟨rfl, rfl, rfl⟩ := hcs
      have hz' : ss.length = _ := hz
      simp only [if_true] at hz'
      obtain ⟨ts, t1, t2, t3, t4⟩ := strs_take7 (by rw [hz']; exact hl) hcell hwz
      exact ⟨ts, t1, t2, t3, t4, by rw [t1]; omega⟩
  clear hA0 hval0
  unfold maxLen at m0 m1 m2
  refine (walk s0 a0 cap0 s1 a1 cap1 s2 a2 cap2 W w0 w1 w2 n0 n1 n2 m0 m1 m2 f0 f1 f2).mono fun e W' ⟨he, bel⟩ => ?_
  subst he
  exact ⟨_, rfl, _, _, _, [], _, [], hW', trodAll_mk1 (shut_bool Try.underlying4 _), (trodAll_cons_mk (Below.trod laidOut (by kernel_rfl) (of_decide_eq_true (by kernel_rfl)) k0 bel lt0) (trodAll_cons_mk (Below.trod laidOut (by kernel_rfl) (of_decide_eq_true (by kernel_rfl)) k1 bel lt1) (trodAll_cons_mk (Below.trod laidOut (by kernel_rfl) (of_decide_eq_true (by kernel_rfl)) k2 bel lt2) trodAll_mk0))), rfl, bel.frame _, fun h => by cases h⟩

theorem over : Rows.fnStagedRowFindsEveryStagedKeyInBothFormsRow.holds Try.pinned (OpenSpec.ofChange Rows.fnStagedRowFindsEveryStagedKeyInBothFormsSpec) :=
  OpenClaim.holds_of_wide 7 Try.f7 rfl rfl rfl rfl rfl rfl rfl ⟨rfl, rfl, rfl, rfl, rfl⟩ rfl rfl rfl rfl rfl (by kernel_rfl) Try.func7 (by kernel_rfl)
    (of_decide_eq_true (by kernel_rfl)) (by unfold Func.isWrapper; first | (rw [if_pos (by decide +kernel)]; kernel_rfl) | (rw [if_neg (by decide +kernel)]; exact ⟨rfl, rfl⟩))
    (fun os started H enc _ => lifted os started H enc)

/-- THE STATEMENT -/
theorem proved : Rows.FnStagedRowFindsEveryStagedKeyInBothFormsSaid := over
#print axioms proved
end Go.Proofs.Qxb6600999a.fnStagedRowFindsEveryStagedKeyInBothForms
