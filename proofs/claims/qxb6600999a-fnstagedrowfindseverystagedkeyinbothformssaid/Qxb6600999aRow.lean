import Derived.Test.Qxb6600999aLeaf
import Derived.Lib.SliceRun
namespace Go.Proofs.Qxb6600999a.W
open Go.RowKit Go.Proofs.Qxb6600999a.Plain
set_option linter.unusedVariables false

/-- A row of M cells, of elements of type E, not frozen. -/
def RowV (w : World) (E g M : Nat) (c : Nat → Value) : Prop := ∃ cur, w.heap[g]? = some (.cells cur E (0, 0)) ∧ cur.size = M ∧ ∀ j, j < M → cur[j]? = some (c j)

theorem RowV.lt {w : World} {E g M : Nat} {c : Nat → Value} (h : RowV w E g M c) : g < w.heap.size := by
  obtain ⟨cur, h1, _⟩ := h
  exact (Array.getElem?_eq_some_iff.1 h1).1
theorem RowV.cell {w : World} {E g M : Nat} {c : Nat → Value} (h : RowV w E g M c) : ∀ j, j < M → w.cell? ⟨g, j, none⟩ = some (c j) := by
  intro j hj
  obtain ⟨cur, h1, _, h2⟩ := h
  rw [cell_of_row w g j cur E (0, 0) h1]; exact h2 j hj
theorem RowV.free {w : World} {E g M : Nat} {c : Nat → Value} (h : RowV w E g M c) : ∀ j, w.frozen? ⟨g, j, none⟩ = false := by
  intro j
  obtain ⟨cur, h1, h2⟩ := h
  exact frozen_of_row w g j cur E h1
theorem RowV.at {w w' : World} {E g M : Nat} {c : Nat → Value} (h : RowV w E g M c) (hb : w'.heap[g]? = w.heap[g]?) : RowV w' E g M c := by
  obtain ⟨cur, h1, h2⟩ := h
  exact ⟨cur, hb.trans h1, h2⟩
theorem RowV.keep {w w' : World} {E g M : Nat} {c : Nat → Value} (h : RowV w E g M c) (hb : Below w.heap.size w w') : RowV w' E g M c := h.at (hb.block g h.lt)
theorem RowV.congr {w : World} {E g M : Nat} {c d : Nat → Value} (h : RowV w E g M c) (e : ∀ j, j < M → c j = d j) : RowV w E g M d := by
  obtain ⟨cur, h1, h2, h3⟩ := h
  exact ⟨cur, h1, h2, fun j hj => by rw [h3 j hj, e j hj]⟩
theorem RowV.set {w : World} {E g M : Nat} {c : Nat → Value} (h : RowV w E g M c) (k : Nat) (v : Value) : RowV (w.setCell ⟨g, k, none⟩ v) E g M (fun j => if j = k then v else c j) := by
  obtain ⟨cur, h1, hs, h2⟩ := h
  refine ⟨_, heap_setCell_same w g k cur E _ h1, by simpa using hs, fun j hj => ?_⟩
  rw [Array.getElem?_setIfInBounds]
  by_cases e : j = k
  · subst e; rw [if_pos rfl, if_pos (by omega)]; simp
  · rw [if_neg (by omega), h2 j hj]; simp [e]
theorem RowV.other {w : World} {E g M : Nat} {c : Nat → Value} (h : RowV w E g M c) (a : Addr) (v : Value) (hne : g ≠ a.block) : RowV (w.setCell a v) E g M c :=
  h.at (heap_setCell_other w a g v hne)
/-- What a make of the call's own leaves, as a row. -/
theorem RowV.made {w : World} {B E size n g : Nat} {xs : List Value} (h : w.ownsRow B E size (.slice (some ⟨g, 0, none⟩) n n) n xs) : RowV w E g (n * size) (fun j => (xs[j]?).getD undef) := by
  rcases h.2 with ⟨h', _⟩ | ⟨g', cap, cur, h', _, hg, _, _, hcs, htake⟩
  · cases h'
  · cases h'
    refine ⟨cur, hg, hcs, fun j hj => ?_⟩
    have hx : cur.toList = xs := by rw [← htake, List.take_of_length_le (by simp [hcs])]
    have hj' : j < cur.size := by omega
    rw [← hx]
    simp [hj']
/-- And back: a full row is owned. -/
theorem RowV.owns {w : World} {B E size n g : Nat} {c : Nat → Value} {xs : List Value} (h : RowV w E g (n * size) c) (hB : B ≤ g) (hm : n ≤ maxLen) (hl : xs.length = n * size) (hx : ∀ j, j < n * size → xs[j]? = some (c j)) :
    w.ownsRow B E size (.slice (some ⟨g, 0, none⟩) n n) n xs := by
  obtain ⟨cur, h1, hs, h2⟩ := h
  refine ⟨hl, .inr ⟨g, n, cur, rfl, hB, h1, Nat.le_refl _, hm, hs, ?_⟩⟩
  apply List.ext_getElem?
  intro j
  by_cases hj : j < n * size
  · rw [List.getElem?_take, if_pos hj, hx j hj]; simpa using h2 j hj
  · rw [List.getElem?_eq_none (by simp; omega), List.getElem?_eq_none (by omega)]

theorem info9 : (Try.prog.info? 9).map (fun i => (i.zero, i.size, i.bytes)) = some (some (.string ByteArray.empty), 1, 16) := by kernel_rfl
theorem info3 : (Try.prog.info? 3).map (fun i => (i.zero, i.size, i.bytes)) = some (some (.int .i64 0), 1, 8) := by kernel_rfl

/-- Some bool is answered; nothing has turned. -/
def BoolAns (w : World) (e : Ending) (w' : World) : Prop := ∃ r, e = .returned (.bool r) ∧ w' = w
theorem BoolAns.mk (r : Bool) (w : World) : BoolAns w (.returned (.bool r)) w := ⟨r, rfl, rfl⟩

/-- A clone of strings. -/
def ClonedS (w : World) (ss : List ByteArray) (e : Ending) (w' : World) : Prop := ∃ a' cap', e = .returned (.slice a' ss.length cap') ∧ IsStrs w' a' ss ∧ Below w.heap.size w w'
def ClonedI (w : World) (zs : List Int) (e : Ending) (w' : World) : Prop := ∃ a' cap', e = .returned (.slice a' zs.length cap') ∧ IsInts w' a' zs ∧ Below w.heap.size w w'

set_option maxHeartbeats 800000 in
theorem cloneS_any (ss : List ByteArray) (a : Option Addr) (cap : Nat) (w : World) (hS : IsStrs w a ss) (hn : ss.length ≤ 100000) (hnil : a = none → ss.length = 0) :
    Calls Try.prog 24 #[.slice a ss.length cap] w (ClonedS w ss) := by
  obtain ⟨i0, hi, hz0, hz1, hz2⟩ := info_parts info9
  have H2 := hide hz2
  clear hz2
  have hnl := fun W => Lib.run_eql_slice_nil (P := Try.prog) W 35 9 a ss.length cap 0 0 Try.underlying35
  obtain ⟨n, hnn⟩ : ∃ n, n = ss.length := ⟨_, rfl⟩
  rw [← hnn] at hn hnl hnil ⊢
  have HN := hide hnn
  have HS := hide hS
  clear hnn hS
  cases a with
  | none =>
    obtain rfl : n = 0 := hnil rfl
    go_enter Try.func24, Try.ntmps24
    go_wp2
    go_ret
    exact ⟨none, 0, by rw [← HN.out]; rfl, fun h0 => by rw [← HN.out] at h0; omega, Below.refl _ _⟩
  | some x =>
    clear hnil
    go_enter Try.func24, Try.ntmps24
    go_wp2_with (at_make; refine wpList_make_full _ rfl _ _ 35 rfl w.heap.size 9 i0 (.string ByteArray.empty) 1 Try.underlying35 hi hz0 hz1 _ _ _ _ n rfl rfl rfl rfl (by rw [H2.out]; omega) (by unfold maxLen; omega) (Nat.le_refl _) ?_)
    intro w1 hown hgrow
    have hrow := RowV.made hown
    have hb1 : Below w.heap.size w w1 := (Below.refl _ _).grown hgrow (Nat.le_refl _) (fun k h => by cases h)
    clear hown hgrow
    go_wp2
    go_loopw [4] (fun i wr => ∃ (k : Nat) (c : Nat → Value), i = .int .i64 k ∧ k ≤ n ∧ RowV wr 9 w.heap.size (n * 1) c ∧ Hid (∀ j, j < k → c j = .string (ss[j]?.getD ByteArray.empty)) ∧ Below w.heap.size w wr) (fun i _ => n - (intOf i).toNat)
    case atStart => exact ⟨0, _, rfl, Nat.zero_le _, hrow, hide (fun j hj => by omega), hb1⟩
    case round =>
      obtain ⟨k, c, rfl, hk, hR, HC, hb⟩ := hrel
      by_cases hkn : k < n
      · obtain ⟨b, off, hx, hg, hcs⟩ := HS.out (by rw [← HN.out]; omega)
        obtain rfl : x = ⟨b, off, none⟩ := by cases hx; rfl
        have c0 := (hb.cell (p := ⟨b, off + k, none⟩) hg).trans (hcs k (by rw [← HN.out]; exact hkn))
        obtain ⟨s, hs⟩ : ∃ s, s = ss[k]?.getD ByteArray.empty := ⟨_, rfl⟩
        rw [← hs] at c0
        have HSS := hide hs
        have c1 := hR.cell k (by omega)
        have c2 := hR.free k
        clear hs hcs hx
        obtain ⟨cv, hcv⟩ : ∃ cv, cv = c k := ⟨_, rfl⟩
        rw [← hcv] at c1
        clear hcv
        go_wp2
        go_roundw
        case rel =>
          refine ⟨k + 1, _, by go_num, by omega, hR.set k (.string s), hide (fun j hj => ?_), hb.setCell (Nat.le_refl _) _⟩
          by_cases e : j = k
          · simp [e, HSS.out]
          · simp only [e, if_false]; exact HC.out j (by omega)
        case measure => simp [intOf]; omega
      · obtain rfl : n = k := by omega
        go_wp2
        go_ret
        refine ⟨some ⟨w.heap.size, 0, none⟩, n, by rw [← HN.out]; rfl, fun h0 => ⟨w.heap.size, 0, rfl, hR.lt, fun j hj => ?_⟩, hb⟩
        rw [Nat.zero_add, hR.cell j (by rw [← HN.out] at hj; omega), HC.out j (by rw [← HN.out] at hj; omega)]
end Go.Proofs.Qxb6600999a.W
