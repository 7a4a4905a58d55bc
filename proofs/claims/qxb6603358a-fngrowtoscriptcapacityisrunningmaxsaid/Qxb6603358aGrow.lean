import Derived.Test.Qxb6603358aRows
import Derived.WalkKit
import Derived.WalkSpells
import Derived.WalkLawsBesides
import Derived.ProofKit
import Derived.RegionTactic
import Derived.ChangeAlike
import Derived.Deep.QuietTactic
import Derived.BigQuiet
import Derived.Laws.Pointers
import Derived.LaidEqlPtr
namespace Go.Proofs.Qxb6603358a.W
open Go.RowKit
set_option linter.unusedVariables false
theorem hide {q : Prop} (h : q) : Hid q := h
theorem info5 : (Try.prog.info? 5).map (fun i => (i.zero, i.size, i.bytes)) = some (some (.int .u8 0), 1, 1) := by kernel_rfl

/-- A row of bytes of the call's own. -/
def Row (w : World) (g M : Nat) (c : Nat → Int) : Prop := ∃ cur, w.heap[g]? = some (.cells cur 5 (0, 0)) ∧ ∀ j, j < M → cur[j]? = some (.int .u8 (c j))

theorem Row.lt {w : World} {g M : Nat} {c : Nat → Int} (h : Row w g M c) : g < w.heap.size := by
  obtain ⟨cur, h1, _⟩ := h
  exact (Array.getElem?_eq_some_iff.1 h1).1
theorem Row.cell {w : World} {g M : Nat} {c : Nat → Int} (h : Row w g M c) : ∀ j, j < M → w.cell? ⟨g, j, none⟩ = some (.int .u8 (c j)) := by
  intro j hj
  obtain ⟨cur, h1, h2⟩ := h
  rw [cell_of_row w g j cur 5 (0, 0) h1]; exact h2 j hj
theorem Row.free {w : World} {g M : Nat} {c : Nat → Int} (h : Row w g M c) : ∀ j, w.frozen? ⟨g, j, none⟩ = false := by
  intro j
  obtain ⟨cur, h1, h2⟩ := h
  exact frozen_of_row w g j cur 5 h1
theorem Row.drewN {w : World} {g M : Nat} {c : Nat → Int} (h : Row w g M c) (n : Nat) : Row (w.drewN n) g M c := h
theorem Row.grown {w w' : World} {g M : Nat} {c : Nat → Int} (h : Row w g M c) (hg : w.grownBy w' none) : Row w' g M c := by
  have hlt := h.lt
  obtain ⟨cur, h1, h2⟩ := h
  exact ⟨cur, (hg.block g hlt (by simp)).trans h1, h2⟩
theorem Row.set {w : World} {g M : Nat} {c : Nat → Int} (h : Row w g M c) (k : Nat) (v : Int) (hk : k < M) : Row (w.setCell ⟨g, k, none⟩ (.int .u8 v)) g M (fun j => if j = k then v else c j) := by
  obtain ⟨cur, h1, h2⟩ := h
  refine ⟨_, heap_setCell_same w g k cur 5 _ h1, fun j hj => ?_⟩
  have hs : k < cur.size := (Array.getElem?_eq_some_iff.1 (h2 k hk)).1
  rw [Array.getElem?_setIfInBounds]
  by_cases e : j = k
  · subst e; simp [hs]
  · rw [if_neg (by omega), h2 j hj]; simp [e]
theorem Row.other {w : World} {g M : Nat} {c : Nat → Int} (h : Row w g M c) (a : Addr) (v : Value) (hne : g ≠ a.block) : Row (w.setCell a v) g M c := by
  obtain ⟨cur, h1, h2⟩ := h
  exact ⟨cur, (heap_setCell_other w a g v hne).trans h1, h2⟩
theorem Row.made {w : World} {B n g : Nat} (h : w.ownsRow B 5 1 (.slice (some ⟨g, 0, none⟩) n n) n (madeCells #[.int .u8 0] n).toList) : Row w g n (fun _ => 0) := by
  rcases h.2 with ⟨h', _⟩ | ⟨g', cap, cur, h', _, hg, _, _, _, htake⟩
  · cases h'
  · cases h'
    refine ⟨cur, hg, fun j hj => ?_⟩
    rw [toList_madeCells_one] at htake
    have := congrArg (fun l => l[j]?) htake
    simpa [List.getElem?_take, hj] using this

/-- The element type's size. -/
theorem size5 : (Try.prog.info? 5).map (·.size) = some 1 := by kernel_rfl
theorem eql_apart {w : World} {g h M N : Nat} {c d : Nat → Int} (hg : Row w g M c) (hh : Row w h N d) (hne : ¬ g = h) :
    (binOp .eql 26 (.pointer (some ⟨g, 0, none⟩)) (.pointer (some ⟨h, 0, none⟩))).run Try.prog w = .ok (.bool false) w := by
  obtain ⟨j, hj, hjs⟩ := Option.map_eq_some_iff.1 size5
  obtain ⟨cg, h1, _⟩ := hg
  obtain ⟨ch, h2, _⟩ := hh
  exact run_eql_ptr_other w Try.underlying26 hj (by rw [hjs]; decide) (by intro e; cases e; exact hne rfl) h1 h2
theorem neq_same (w : World) (a : Addr) :
    (binOp .neq 26 (.pointer (some a)) (.pointer (some a))).run Try.prog w = .ok (.bool false) w := by
  obtain ⟨j, hj, hjs⟩ := Option.map_eq_some_iff.1 size5
  have h : ∀ d : Nat, (Op.equalIn (d + 1) 26 (.pointer (some a)) (.pointer (some a))).run Try.prog w = .ok true w := fun d => by
    simp [Op.equalIn, run_underlying Try.underlying26, sizeOf, typeInfo, hj, run_sameAddr_same]
  simp only [binOp]
  simp [Op.equal, Op.maxDepth, h 9999]

theorem grow_new (a : Option Addr) (len cap n : Nat) (h : cap < n) (hn : n ≤ 65536) (w : World) :
    Calls Try.prog 5 #[.slice a len cap, .int .i64 n] w fun e w' => e = .returned (.slice (some ⟨w.heap.size, 0, none⟩) n n) ∧ Row w' w.heap.size n (fun _ => 0) ∧ w.grownBy w' none := by
  obtain ⟨i0, hi, hz0, hz1, hz2⟩ := info_parts info5
  go_enter Try.func5, Try.ntmps5
  go_wp2_with (first | (go_at_call 6; go_in) | (at_make; refine wpList_make_full _ rfl _ _ 24 rfl w.heap.size 5 i0 (.int .u8 0) 1 Try.underlying24 hi hz0 hz1 _ _ _ _ n rfl rfl rfl rfl (by rw [hz2]; omega) (by unfold maxLen; omega) (Nat.le_refl _) ?_))
  intro w1 hown hgrow
  go_wp2
  go_ret
  exact ⟨rfl, Row.made hown, hgrow⟩

theorem grow_same (g len cap n : Nat) (h : n ≤ cap) (hn : n ≤ 65536) (w : World) :
    Calls Try.prog 5 #[.slice (some ⟨g, 0, none⟩) len cap, .int .i64 n] w fun e w' => e = .returned (.slice (some ⟨g, 0, none⟩) n cap) ∧ w' = w := by
  go_enter Try.func5, Try.ntmps5
  go_wp2
  go_ret
  exact ⟨rfl, rfl⟩

theorem grow_nil (w : World) :
    Calls Try.prog 5 #[.slice none 0 0, .int .i64 0] w fun e w' => e = .returned (.slice none 0 0) ∧ w' = w := by
  go_enter Try.func5, Try.ntmps5
  go_wp2
  go_ret
  exact ⟨rfl, rfl⟩
end Go.Proofs.Qxb6603358a.W
