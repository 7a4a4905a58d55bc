import Derived.Test.Qxb6600999aIn
import Derived.Test.Qxb6600999aRow
import Derived.Deep.RegionHeld3
import Derived.Deep.AppendLies
import Derived.Deep.DrawnRows
namespace Go.Proofs.Qxb6600999a.W
open Go.RowKit Go.Proofs.Qxb6600999a.Plain
set_option linter.unusedVariables false

theorem info65 : (Try.prog.info? 65).map (fun i => (i.zero, i.size, i.bytes)) = some (some (.agg #[.string ByteArray.empty, .int .i64 0, .int .i64 0]), 3, 32) := by kernel_rfl

/-- Entries as cells. -/
def entCells : List En → List Value
  | [] => []
  | e :: S => .string e.1.1 :: .int .i64 e.1.2 :: .int .i64 e.2 :: entCells S
theorem entCells_length (S : List En) : (entCells S).length = S.length * 3 := by
  induction S with
  | nil => rfl
  | cons e S ih => simp only [entCells, List.length_cons, ih]; omega
theorem entCells_append (S T : List En) : entCells (S ++ T) = entCells S ++ entCells T := by
  induction S with
  | nil => rfl
  | cons e S ih => simp [entCells, ih]
theorem entCells_get (S : List En) : ∀ j, j < S.length → (entCells S)[j * 3]? = some (.string (S[j]?.getD e0).1.1) ∧ (entCells S)[j * 3 + 1]? = some (.int .i64 (S[j]?.getD e0).1.2) ∧ (entCells S)[j * 3 + 2]? = some (.int .i64 (S[j]?.getD e0).2) := by
  induction S with
  | nil => intro j hj; simp at hj
  | cons e S ih =>
    intro j hj
    match j with
    | 0 => simp [entCells]
    | j + 1 =>
      have h := ih j (by simpa using hj)
      rw [show (j + 1) * 3 = j * 3 + 3 from by omega, show j * 3 + 3 + 1 = j * 3 + 1 + 3 from by omega, show j * 3 + 3 + 2 = j * 3 + 2 + 3 from by omega]
      simpa [entCells] using h
theorem entCells_bump (inc : Int → Int) (S : List En) (j : Nat) (hj : j < S.length) : entCells (bump inc S j) = (entCells S).set (j * 3 + 2) (.int .i64 (inc (S[j]?.getD e0).2)) := by
  induction S generalizing j with
  | nil => simp at hj
  | cons e S ih =>
    match j with
    | 0 => simp [bump, entCells]
    | j + 1 =>
      have h := ih j (by simpa using hj)
      unfold bump at h ⊢
      simp only [List.set_cons_succ, entCells, List.getElem?_cons_succ]
      rw [show (j + 1) * 3 = (j * 3 + 2) + 1 from by omega, List.set_cons_succ, h]
theorem entCells_one (S : List En) : ∀ u ∈ entCells S, u.oneCell' = true := by
  induction S with
  | nil => intro u hu; simp [entCells] at hu
  | cons e S ih =>
    intro u hu
    simp only [entCells, List.mem_cons] at hu
    rcases hu with rfl | rfl | rfl | hu
    · rfl
    · rfl
    · rfl
    · exact ih u hu

/-- What a value that owns entries looks like, and that they can be read. -/
theorem ents_of {w : World} {B : Nat} {v : Value} {S : List En} (h : w.ownsRow B 65 3 v S.length (entCells S)) :
    ∃ a cap, v = .slice a S.length cap ∧ IsEnts w a S := by
  rcases h.2 with ⟨hv, h0⟩ | ⟨g, cap, cur, hv, hb, hg, _⟩
  · exact ⟨none, 0, by rw [hv, h0], fun hp => by omega⟩
  · refine ⟨some ⟨g, 0, none⟩, cap, hv, fun hp => ⟨g, rfl, (Array.getElem?_eq_some_iff.1 hg).1, fun j hj => ?_⟩⟩
    rw [hv] at h
    have hc := entCells_get S j hj
    rw [h.cellAt (j * 3) (by omega), h.cellAt (j * 3 + 1) (by omega), h.cellAt (j * 3 + 2) (by omega)]
    exact hc

/-- WHAT ADD MAY TURN: the cell at p, and the row that v0 leads to; all else that was there is as it was. -/
structure Fr (w : World) (p : Nat) (v0 : Value) (w' : World) : Prop where
  os : w'.os = w.os
  tape : w'.tape = w.tape
  output : w'.output = w.output
  size : w.heap.size ≤ w'.heap.size
  block : ∀ k, k < w.heap.size → k ≠ p → some k ≠ v0.ownBlock → w'.heap[k]? = w.heap[k]?

theorem Fr.refl (w : World) (p : Nat) (v0 : Value) : Fr w p v0 w := ⟨rfl, rfl, rfl, Nat.le_refl _, fun _ _ _ _ => rfl⟩
theorem Fr.below {w w1 w2 : World} {p : Nat} {v0 : Value} (h : Fr w p v0 w1) (hb : Below w1.heap.size w1 w2) : Fr w p v0 w2 :=
  ⟨hb.os.trans h.os, hb.tape.trans h.tape, hb.output.trans h.output, Nat.le_trans h.size hb.size, fun k hk h1 h2 => (hb.block k (Nat.lt_of_lt_of_le hk h.size)).trans (h.block k hk h1 h2)⟩
theorem Fr.setP {w w1 : World} {p : Nat} {v0 : Value} (h : Fr w p v0 w1) (j : Nat) (x : Value) : Fr w p v0 (w1.setCell ⟨p, j, none⟩ x) :=
  ⟨h.os, h.tape, h.output, by simpa using h.size, fun k hk h1 h2 => (heap_setCell_other w1 ⟨p, j, none⟩ k x h1).trans (h.block k hk h1 h2)⟩
/-- Where the entries' row lies: where it lay at first, or in new memory. -/
def Lies (w : World) (v0 v : Value) : Prop := v.ownBlock = v0.ownBlock ∨ ∃ g, v.ownBlock = some g ∧ w.heap.size ≤ g
theorem Fr.grown {w w1 w2 : World} {p : Nat} {v0 v : Value} (h : Fr w p v0 w1) (hl : Lies w v0 v) (hg : w1.grownBy w2 v.ownBlock) : Fr w p v0 w2 := by
  refine ⟨hg.os.trans h.os, hg.tape.trans h.tape, hg.output.trans h.output, Nat.le_trans h.size hg.size, fun k hk h1 h2 => (hg.block k (Nat.lt_of_lt_of_le hk h.size) ?_).trans (h.block k hk h1 h2)⟩
  rcases hl with hl | ⟨g, hl, hge⟩
  · rw [hl]; exact h2
  · rw [hl]; intro e; cases e; omega

theorem Fr.grownNew {w w1 w2 : World} {p : Nat} {v0 : Value} {row : Option Nat} (h : Fr w p v0 w1) (hg : w1.grownBy w2 row) (hr : ∀ k, row = some k → w.heap.size ≤ k) : Fr w p v0 w2 := by
  refine ⟨hg.os.trans h.os, hg.tape.trans h.tape, hg.output.trans h.output, Nat.le_trans h.size hg.size, fun k hk h1 h2 => (hg.block k (Nat.lt_of_lt_of_le hk h.size) ?_).trans (h.block k hk h1 h2)⟩
  intro e
  have := hr k e.symm
  omega

/-- The cell at p and the row of entries lie apart. -/
theorem apart {w : World} {p B : Nat} {v x : Value} {n : Nat} {xs : List Value} (hP : w.heap[p]? = some (.cells #[x] 61 (0, 0))) (h : w.ownsRow B 65 3 v n xs) : v.ownBlock ≠ some p := by
  intro e
  rcases h.2 with ⟨hv, _⟩ | ⟨g, cap, cur, hv, _, hg, _⟩
  · rw [hv] at e; cases e
  · rw [hv] at e
    cases e
    rw [hg] at hP
    simp at hP
theorem apartQ {w : World} {q B : Nat} {v : Value} {n : Nat} {xs : List Value} {cs : Array Value} (hQ : w.heap[q]? = some (.cells cs 63 (0, 0))) (h : w.ownsRow B 65 3 v n xs) : v.ownBlock ≠ some q := by
  intro e
  rcases h.2 with ⟨hv, _⟩ | ⟨g, cap, cur, hv, _, hg, _⟩
  · rw [hv] at e; cases e
  · rw [hv] at e
    cases e
    rw [hg] at hQ
    simp at hQ
theorem apartC {w : World} {B B' : Nat} {v vC : Value} {n m : Nat} {xs ys : List Value} (h : w.ownsRow B 65 3 v n xs) (hC : w.ownsRow B' 3 1 vC m ys) : vC.ownBlock = none ∨ vC.ownBlock ≠ v.ownBlock := by
  rcases hC.2 with ⟨hv, _⟩ | ⟨g, cap, cur, hv, _, hg, _⟩
  · left; rw [hv]; rfl
  · right
    intro e
    rcases h.2 with ⟨hv', _⟩ | ⟨g', cap', cur', hv', _, hg', _⟩
    · rw [hv, hv'] at e; cases e
    · rw [hv, hv'] at e
      cases e
      rw [hg] at hg'
      simp at hg'
theorem ownsRow_below {w w' : World} {B e size n : Nat} {v : Value} {xs : List Value} (h : w.ownsRow B e size v n xs) (hb : Below w.heap.size w w') : w'.ownsRow B e size v n xs := by
  refine ⟨h.1, ?_⟩
  rcases h.2 with hn | ⟨g, cap, cur, hv, hB, hg, rest⟩
  · exact .inl hn
  · exact .inr ⟨g, cap, cur, hv, hB, (hb.block g (Array.getElem?_eq_some_iff.1 hg).1).trans hg, rest⟩
theorem ownsRow_base {w : World} {B B' e size n : Nat} {v : Value} {xs : List Value} (h : w.ownsRow B e size v n xs) (hb : B' ≤ B) : w.ownsRow B' e size v n xs := by
  refine ⟨h.1, ?_⟩
  rcases h.2 with hn | ⟨g, cap, cur, hv, hB, rest⟩
  · exact .inl hn
  · exact .inr ⟨g, cap, cur, hv, Nat.le_trans hb hB, rest⟩

/-- Places as numbers in cells. -/
def natCells (C : List Nat) : List Value := (C.map Int.ofNat).map (Value.int .i64)
theorem natCells_length (C : List Nat) : (natCells C).length = C.length := by simp [natCells]
theorem natCells_snoc (C : List Nat) (j : Nat) : natCells (C ++ [j]) = natCells C ++ [.int .i64 (j : Int)] := by simp [natCells]

theorem ints_of {w : World} {B : Nat} {v : Value} {C : List Nat} (h : w.ownsRow B 3 1 v C.length (natCells C)) :
    ∃ a cap, v = .slice a C.length cap ∧ IsInts w a (C.map Int.ofNat) := by
  rcases h.2 with ⟨hv, h0⟩ | ⟨g, cap, cur, hv, hb, hg, _⟩
  · exact ⟨none, 0, by rw [hv, h0], fun hp => by rw [List.length_map] at hp; omega⟩
  · refine ⟨some ⟨g, 0, none⟩, cap, hv, fun hp => ⟨g, 0, rfl, (Array.getElem?_eq_some_iff.1 hg).1, fun j hj => ?_⟩⟩
    rw [hv] at h
    rw [Nat.zero_add, h.cellAt j (by rw [List.length_map] at hj; omega)]
    rw [List.getElem?_eq_getElem hj]
    simp only [natCells]
    rw [List.getElem?_map, List.getElem?_eq_getElem hj]
    rfl

theorem own_set_other {w : World} {B e size n : Nat} {v : Value} {xs : List Value} (h : w.ownsRow B e size v n xs) (a : Addr) (x : Value) (hne : v.ownBlock ≠ some a.block) : (w.setCell a x).ownsRow B e size v n xs := by
  refine ⟨h.1, ?_⟩
  rcases h.2 with hn | ⟨g, cap, cur, hv, hB, hg, rest⟩
  · exact .inl hn
  · refine .inr ⟨g, cap, cur, hv, hB, (heap_setCell_other w a g x ?_).trans hg, rest⟩
    intro e
    apply hne
    rw [hv, ← e]
    rfl

theorem step_new {w X w1 : World} {p : Nat} {v0 V vc : Value} {S : List En} {C : List Nat} {T : ByteArray} {B : Int} {gg cap H : Nat}
    (hP : X.heap[p]? = some (.cells #[V] 61 (0, 0))) (hS : X.ownsRow 0 65 3 V S.length (entCells S)) (hC : X.ownsRow w.heap.size 3 1 vc C.length (natCells C)) (hL : Lies w v0 V) (hF : Fr w p v0 X)
    (hown : w1.ownsRow 0 65 3 (.slice (some ⟨gg, 0, none⟩) (S.length + 1) cap) (S.length + 1) (entCells S ++ [.string T, .int .i64 B, .int .i64 1])) (hgrow : X.grownBy w1 V.ownBlock) (hat : V.ownBlock = some gg ∨ gg = H) (hH : w.heap.size ≤ H) :
    (w1.setCell ⟨p, 0, none⟩ (.slice (some ⟨gg, 0, none⟩) (S.length + 1) cap)).heap[p]? = some (.cells #[.slice (some ⟨gg, 0, none⟩) (S.length + 1) cap] 61 (0, 0)) ∧
    (w1.setCell ⟨p, 0, none⟩ (.slice (some ⟨gg, 0, none⟩) (S.length + 1) cap)).ownsRow 0 65 3 (.slice (some ⟨gg, 0, none⟩) (S.length + 1) cap) (S ++ [((T, B), 1)]).length (entCells (S ++ [((T, B), 1)])) ∧
    (w1.setCell ⟨p, 0, none⟩ (.slice (some ⟨gg, 0, none⟩) (S.length + 1) cap)).ownsRow w.heap.size 3 1 vc C.length (natCells C) ∧
    Lies w v0 (.slice (some ⟨gg, 0, none⟩) (S.length + 1) cap) ∧ Fr w p v0 (w1.setCell ⟨p, 0, none⟩ (.slice (some ⟨gg, 0, none⟩) (S.length + 1) cap)) := by
  have hpX : p < X.heap.size := (Array.getElem?_eq_some_iff.1 hP).1
  have hne : V.ownBlock ≠ some p := apart hP hS
  have hP1 : w1.heap[p]? = some (.cells #[V] 61 (0, 0)) := (hgrow.block p hpX (fun e => hne e.symm)).trans hP
  have hne1 := apart hP1 hown
  have hC1 : w1.ownsRow w.heap.size 3 1 vc C.length (natCells C) := hC.kept hgrow (apartC hS hC)
  have hneC : vc.ownBlock ≠ some p := by
    intro e
    rcases hC.2 with ⟨hv, _⟩ | ⟨g, cap, cur, hv, _, hg, _⟩
    · rw [hv] at e; cases e
    · rw [hv] at e
      cases e
      rw [hg] at hP
      simp at hP
  refine ⟨?_, ?_, own_set_other hC1 _ _ hneC, ?_, ((hF.grown hL hgrow).setP 0 _)⟩
  · rw [heap_setCell_same w1 p 0 #[V] 61 _ hP1]; simp
  · have e1 : (S ++ [((T, B), (1 : Int))]).length = S.length + 1 := by simp
    have e2 : entCells (S ++ [((T, B), (1 : Int))]) = entCells S ++ [.string T, .int .i64 B, .int .i64 1] := by rw [entCells_append]; rfl
    rw [e1, e2]
    exact own_set_other hown _ _ hne1
  · rcases hat with hat | hat
    · rcases hL with hL | ⟨g, hL, hge⟩
      · left; rw [← hL, hat]; rfl
      · right; exact ⟨g, by rw [← hL, hat]; rfl, hge⟩
    · right; exact ⟨gg, rfl, by omega⟩

/-- One more in the entry at a place. -/
theorem step_bump {w X : World} {p : Nat} {v0 vc : Value} {S : List En} {C : List Nat} {g cap j : Nat} {inc : Int → Int}
    (hP : X.heap[p]? = some (.cells #[.slice (some ⟨g, 0, none⟩) S.length cap] 61 (0, 0))) (hS : X.ownsRow 0 65 3 (.slice (some ⟨g, 0, none⟩) S.length cap) S.length (entCells S)) (hC : X.ownsRow w.heap.size 3 1 vc C.length (natCells C)) (hL : Lies w v0 (.slice (some ⟨g, 0, none⟩) S.length cap)) (hF : Fr w p v0 X) (hj : j < S.length) :
    (X.setCell ⟨g, j * 3 + 2, none⟩ (.int .i64 (inc (S[j]?.getD e0).2))).heap[p]? = some (.cells #[.slice (some ⟨g, 0, none⟩) S.length cap] 61 (0, 0)) ∧
    (X.setCell ⟨g, j * 3 + 2, none⟩ (.int .i64 (inc (S[j]?.getD e0).2))).ownsRow 0 65 3 (.slice (some ⟨g, 0, none⟩) S.length cap) (bump inc S j).length (entCells (bump inc S j)) ∧
    (X.setCell ⟨g, j * 3 + 2, none⟩ (.int .i64 (inc (S[j]?.getD e0).2))).ownsRow w.heap.size 3 1 vc C.length (natCells C) ∧
    Fr w p v0 (X.setCell ⟨g, j * 3 + 2, none⟩ (.int .i64 (inc (S[j]?.getD e0).2))) := by
  have hne := apart hP hS
  have hpg : p ≠ g := by intro e; apply hne; rw [e]; rfl
  have hst := hS.stored (j * 3 + 2) (.int .i64 (inc (S[j]?.getD e0).2))
  refine ⟨(heap_setCell_other X ⟨g, j * 3 + 2, none⟩ p _ hpg).trans hP, ?_, ?_, hF.grown hL hst.2⟩
  · rw [bump_length, entCells_bump inc S j hj]; exact hst.1
  · exact hC.kept hst.2 (apartC hS hC)

/-- The counted places grow by one. -/
theorem step_count {w Y w' : World} {p : Nat} {v0 v vc vD : Value} {S : List En} {C : List Nat} {o : Obj} {j : Nat}
    (hp : p < w.heap.size) (hP : Y.heap[p]? = some (.cells #[v] 61 (0, 0))) (hS : Y.ownsRow 0 65 3 v S.length (entCells S)) (hC : Y.ownsRow w.heap.size 3 1 vc C.length (natCells C)) (hF : Fr w p v0 Y)
    (hown : w'.ownsRow w.heap.size 3 1 vD (C.length + 1) (natCells C ++ [.int .i64 (j : Int)])) (hgrow : (Y.alloc o).grownBy w' vc.ownBlock) :
    w'.heap[p]? = some (.cells #[v] 61 (0, 0)) ∧ w'.ownsRow 0 65 3 v S.length (entCells S) ∧ w'.ownsRow w.heap.size 3 1 vD (C ++ [j]).length (natCells (C ++ [j])) ∧ Fr w p v0 w' := by
  have hpY : p < Y.heap.size := (Array.getElem?_eq_some_iff.1 hP).1
  have hr : ∀ k, vc.ownBlock = some k → w.heap.size ≤ k := fun k h => (hC.lt k h).1
  have hFa : Fr w p v0 (Y.alloc o) := hF.below ((Below.refl _ _).alloc (Nat.le_refl _) _)
  refine ⟨?_, ?_, ?_, hFa.grownNew hgrow hr⟩
  · rw [hgrow.block p (by simp; omega) (fun e => by have := hr p e.symm; omega), Below.heap_alloc Y o p hpY]; exact hP
  · refine (hS.alloc o).kept hgrow ?_
    rcases apartC hS hC with h | h
    · rw [h]
      cases hv : v.ownBlock with
      | none => left; rfl
      | some g => right; simp
    · exact Or.inr (Ne.symm h)
  · rw [natCells_snoc, List.length_append]; exact hown

/-- A write's cells. -/
def IsWrites (w : World) (a : Option Addr) (W : List U) : Prop :=
  0 < W.length → ∃ b off, a = some ⟨b, off, none⟩ ∧ b < w.heap.size ∧ ∀ j, j < W.length →
    w.cell? ⟨b, off + j * 9, none⟩ = some (.string (W[j]?.getD (ByteArray.empty, 0)).1) ∧ w.cell? ⟨b, off + j * 9 + 1, none⟩ = some (.int .i64 (W[j]?.getD (ByteArray.empty, 0)).2) ∧
    w.cell? ⟨b, off + j * 9 + 2, none⟩ = some (.int .u8 0) ∧ w.cell? ⟨b, off + j * 9 + 3, none⟩ = some (.int .i64 0) ∧ w.cell? ⟨b, off + j * 9 + 4, none⟩ = some (.string ByteArray.empty) ∧
    w.cell? ⟨b, off + j * 9 + 5, none⟩ = some (.slice none 0 0) ∧ w.cell? ⟨b, off + j * 9 + 6, none⟩ = some (.slice none 0 0) ∧ w.cell? ⟨b, off + j * 9 + 7, none⟩ = some (.bool false) ∧ w.cell? ⟨b, off + j * 9 + 8, none⟩ = some (.int .i64 0)
end Go.Proofs.Qxb6600999a.W
