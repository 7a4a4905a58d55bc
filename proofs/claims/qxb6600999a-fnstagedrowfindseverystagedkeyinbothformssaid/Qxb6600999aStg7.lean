import Derived.Test.Qxb6600999aStg6
import Derived.Deep.RegionHeld3
import Derived.Laws.Cover3
namespace Go.Proofs.Qxb6600999a.W
open Go.RowKit Go.Proofs.Qxb6600999a.Plain
set_option linter.unusedVariables false
attribute [local go_sem ↓] Go.wp_at_zero Go.wp_at_succ

theorem look77 {w : World} {f : Nat → Key} {gM n t : Nat} (h : Places w f gM n n) (ht : t < n) {kl : Lit} (hk : keyOf Try.prog 45 (keyV (f t)) = some kl) :
    (Instr.lookup 77 (.map (some gM)) (keyV (f t)) true).run Try.prog w = .ok (.tuple #[.int .i64 t, .bool true]) w := by
  obtain ⟨D, hown, hat⟩ := h
  obtain ⟨v, ps, hrun, hv⟩ := hown.look_ok law45 Try.underlying77 (zero3 w) (plainElem_int Try.underlying3 (by decide)) hk
  obtain ⟨h1, h2⟩ := hat t ht kl hk
  rw [h1] at hv
  obtain ⟨c, rfl, hc, _⟩ := plainElem_int_inv Try.underlying3 hv
  simp at hc
  obtain ⟨rfl, _⟩ := hc
  rw [hrun, h2]

set_option maxRecDepth 100000 in
set_option maxHeartbeats 1600000 in
theorem row_any (f : Nat → Key) (g gT gR n t : Nat) (b : Bool) (pv : Nat → Nat) (w : World) (hS : StagedIn w f g gT gR n b pv) (hK : KeysIn w g f n) (hn : n ≤ 100000) (ht : t < n) (hd : ∀ j, j < t → f j ≠ f t)
    (hwf : ∃ kl, keyOf Try.prog 45 (keyV (f t)) = some kl) (k z : Int) (s : ByteArray) (hf : f t = (k, z, s)) :
    Calls Try.prog 36 #[.pointer (some ⟨gT, 0, none⟩), .agg #[.int .u8 k, .int .i64 z, .string s]] w fun e w' => e = .returned (.pointer (some ⟨pv t, 0, none⟩)) ∧ Below w.heap.size w w' := by
  obtain ⟨h1, h2, h3, h4, h5, h6⟩ := hS
  have h3t := h3 t ht
  have hbA : ∀ o, Below w.heap.size w (w.alloc o) := fun o => (Below.refl _ _).alloc (Nat.le_refl _) _
  have ht0 : (0 : Int) ≤ (t : Int) := by omega
  have htn : (t : Int) < (n : Int) := by omega
  have HIDX : Hid (∀ W, KeysIn W g f n → Calls Try.prog 41 #[.slice (some ⟨g, 0, none⟩) n n, .agg #[.int .u8 k, .int .i64 z, .string s]] W fun e w' => e = .returned (.int .i64 t) ∧ Below W.heap.size W w') := fun W hW => index_any f g n t W hW hn ht hd k z s hf
  have HK := hide hK
  have HBA := hide hbA
  rcases h6 with ⟨rfl, h6⟩ | ⟨rfl, gM, h6, h7⟩
  · have hmn : ∀ W, (binOp .neq 77 (.map none) (.map none)).run Try.prog W = .ok (.bool false) W := fun W => run_neq_map_nil (P := Try.prog) (w := W) 77 45 3 none Try.underlying77
    clear hd hwf hf h3 hK hbA
    go_enter Try.func36, Try.ntmps36
    go_wp2
    obtain ⟨wA, hwA⟩ : ∃ wA, wA = w.alloc (Obj.cells #[Value.int IntKind.u8 k, Value.int IntKind.i64 z, Value.string s] 45) := ⟨_, rfl⟩
    rw [← hwA]
    have hA : Below w.heap.size w wA := by rw [hwA]; exact HBA.out _
    have q0 : wA.cell? ⟨w.heap.size, 0, none⟩ = some (.int .u8 k) := by rw [hwA]; simp
    have q1 : wA.cell? ⟨w.heap.size, 1, none⟩ = some (.int .i64 z) := by rw [hwA]; simp
    have q2 : wA.cell? ⟨w.heap.size, 2, none⟩ = some (.string s) := by rw [hwA]; simp
    have hpl : w.heap.size < wA.heap.size := by rw [hwA]; simp
    have r0 := (hA.cell (p := ⟨gT, 0, none⟩) h1).trans h4
    have r1 := (hA.cell (p := ⟨gT, 1, none⟩) h1).trans h5
    have r2 := (hA.cell (p := ⟨gT, 2, none⟩) h1).trans h6
    have r3 := (hA.cell (p := ⟨gR, t, none⟩) h2).trans h3t
    have hTA : gT < wA.heap.size := Nat.lt_of_lt_of_le h1 hA.size
    have hRA : gR < wA.heap.size := Nat.lt_of_lt_of_le h2 hA.size
    have HKA := hide (HK.out.keep hA)
    have HAA := hide hA
    obtain ⟨p, hp⟩ : ∃ p, p = w.heap.size := ⟨_, rfl⟩
    rw [← hp] at q0 q1 q2 hpl h1 h2 ⊢
    clear hp
    clear hwA hA h4 h5 h6 h3t HBA HK
    go_region_held3 (fun w' => w'.cell? ⟨gT, 0, none⟩ = some (.slice (some ⟨g, 0, none⟩) n n) ∧ w'.cell? ⟨p, 0, none⟩ = some (.int .u8 k) ∧ w'.cell? ⟨p, 1, none⟩ = some (.int .i64 z) ∧ w'.cell? ⟨p, 2, none⟩ = some (.string s)) (first | go_keep | (go_split_ands; refine ⟨?_, ?_, ?_, ?_⟩ <;> (rw [hbU.cell (by simp; omega)]; assumption))) ((go_at_call 41; refine (HIDX.out _ (by exact HKA.out)).mono ?_; rintro e wU ⟨rfl, hbU⟩))
    have t1 := (hbU.cell (p := ⟨gT, 1, none⟩) hTA).trans r1
    have t3 := (hbU.cell (p := ⟨gR, t, none⟩) hRA).trans r3
    have HBU := hide hbU
    clear hbU
    go_wp2
    go_ret
    exact ⟨rfl, (HAA.out.drew).trans (HBU.out.mono HAA.out.size)⟩
  · obtain ⟨kl, hkl⟩ := hwf
    have hlook : ∀ o q, (Instr.lookup 77 (.map (some gM)) (.agg #[.int .u8 k, .int .i64 z, .string s]) true).run Try.prog ((w.alloc o).drewN q) = .ok (.tuple #[.int .i64 t, .bool true]) ((w.alloc o).drewN q) := by
      intro o q
      have h := look77 (w := (w.alloc o).drewN q) (h7.keep (below_drewN (hbA o) q)) ht hkl
      unfold keyV at h
      rw [hf] at h
      exact h
    have hmn : ∀ W, (binOp .neq 77 (.map (some gM)) (.map none)).run Try.prog W = .ok (.bool true) W := fun W => run_neq_map_nil (P := Try.prog) (w := W) 77 45 3 (some gM) Try.underlying77
    clear hd hf h3 hK hbA hkl h7
    go_enter Try.func36, Try.ntmps36
    go_wp2
    obtain ⟨wA, hwA⟩ : ∃ wA, wA = w.alloc (Obj.cells #[Value.int IntKind.u8 k, Value.int IntKind.i64 z, Value.string s] 45) := ⟨_, rfl⟩
    rw [← hwA]
    have hA : Below w.heap.size w wA := by rw [hwA]; exact HBA.out _
    have q0 : wA.cell? ⟨w.heap.size, 0, none⟩ = some (.int .u8 k) := by rw [hwA]; simp
    have q1 : wA.cell? ⟨w.heap.size, 1, none⟩ = some (.int .i64 z) := by rw [hwA]; simp
    have q2 : wA.cell? ⟨w.heap.size, 2, none⟩ = some (.string s) := by rw [hwA]; simp
    have hpl : w.heap.size < wA.heap.size := by rw [hwA]; simp
    have r0 := (hA.cell (p := ⟨gT, 0, none⟩) h1).trans h4
    have r1 := (hA.cell (p := ⟨gT, 1, none⟩) h1).trans h5
    have r2 := (hA.cell (p := ⟨gT, 2, none⟩) h1).trans h6
    have r3 := (hA.cell (p := ⟨gR, t, none⟩) h2).trans h3t
    have hTA : gT < wA.heap.size := Nat.lt_of_lt_of_le h1 hA.size
    have hRA : gR < wA.heap.size := Nat.lt_of_lt_of_le h2 hA.size
    have HKA := hide (HK.out.keep hA)
    have HAA := hide hA
    have hlk : ∀ q, (Instr.lookup 77 (.map (some gM)) (.agg #[.int .u8 k, .int .i64 z, .string s]) true).run Try.prog (wA.drewN q) = .ok (.tuple #[.int .i64 t, .bool true]) (wA.drewN q) := by rw [hwA]; exact hlook _
    have hlk1 := hlk 1
    rw [← World.drew_is_drewN] at hlk1
    have hlk0 := hlk 0
    rw [World.drewN_zero] at hlk0
    obtain ⟨p, hp⟩ : ∃ p, p = w.heap.size := ⟨_, rfl⟩
    rw [← hp] at q0 q1 q2 hpl h1 h2 ⊢
    clear hp
    clear hwA hA h4 h5 h6 h3t HBA HK hlook
    go_quiet (fail)
    go_wp2
    go_ret
    exact ⟨rfl, below_drewN HAA.out _⟩
end Go.Proofs.Qxb6600999a.W
