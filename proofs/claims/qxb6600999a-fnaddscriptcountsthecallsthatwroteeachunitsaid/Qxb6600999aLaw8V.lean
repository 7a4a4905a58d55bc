import Derived.Test.Qxb6600999aLaw8W
namespace Go.Proofs.Qxb6600999a.W
open Go.RowKit Go.Proofs.Qxb6600999a.Plain
set_option linter.unusedVariables false

/-- Units as two rows of cells. -/
def sCells (N : List U) : List Value := N.map (fun u => Value.string u.1)
def iCells (N : List U) : List Value := N.map (fun u => Value.int .i64 u.2)
theorem sCells_snoc (N : List U) (T : ByteArray) (B : Int) : sCells (N ++ [(T, B)]) = sCells N ++ [.string T] := by simp [sCells]
theorem iCells_snoc (N : List U) (T : ByteArray) (B : Int) : iCells (N ++ [(T, B)]) = iCells N ++ [.int .i64 B] := by simp [iCells]

theorem strs_own {w : World} {B : Nat} {v : Value} {N : List U} (h : w.ownsRow B 9 1 v N.length (sCells N)) :
    ∃ a cap, v = .slice a N.length cap ∧ IsStrs w a (N.map (·.1)) := by
  rcases h.2 with ⟨hv, h0⟩ | ⟨g, cap, cur, hv, hb, hg, _⟩
  · exact ⟨none, 0, by rw [hv, h0], fun hp => by rw [List.length_map] at hp; omega⟩
  · refine ⟨some ⟨g, 0, none⟩, cap, hv, fun hp => ⟨g, 0, rfl, (Array.getElem?_eq_some_iff.1 hg).1, fun j hj => ?_⟩⟩
    rw [hv] at h
    rw [List.length_map] at hj
    rw [Nat.zero_add, h.cellAt j (by omega)]
    simp [sCells, hj]
theorem ints_own {w : World} {B : Nat} {v : Value} {N : List U} (h : w.ownsRow B 3 1 v N.length (iCells N)) :
    ∃ a cap, v = .slice a N.length cap ∧ IsInts w a (N.map (·.2)) := by
  rcases h.2 with ⟨hv, h0⟩ | ⟨g, cap, cur, hv, hb, hg, _⟩
  · exact ⟨none, 0, by rw [hv, h0], fun hp => by rw [List.length_map] at hp; omega⟩
  · refine ⟨some ⟨g, 0, none⟩, cap, hv, fun hp => ⟨g, 0, rfl, (Array.getElem?_eq_some_iff.1 hg).1, fun j hj => ?_⟩⟩
    rw [hv] at h
    rw [List.length_map] at hj
    rw [Nat.zero_add, h.cellAt j (by omega)]
    simp [iCells, hj]
theorem apartSI {w : World} {B B' : Nat} {v vC : Value} {n m : Nat} {xs ys : List Value} (h : w.ownsRow B 9 1 v n xs) (hC : w.ownsRow B' 3 1 vC m ys) : vC.ownBlock = none ∨ vC.ownBlock ≠ v.ownBlock := by
  rcases hC.2 with ⟨hv, _⟩ | ⟨g, cap, cur, hv, _, hg, _⟩
  · left; rw [hv]; rfl
  · right
    intro e
    rcases h.2 with ⟨hv', _⟩ | ⟨g', cap', cur', hv', _, hg', _⟩
    · rw [hv, hv'] at e; cases e
    · rw [hv, hv'] at e
      cases e
      rw [hg] at hg'
      simp at hg'
theorem apartIS {w : World} {B B' : Nat} {v vC : Value} {n m : Nat} {xs ys : List Value} (h : w.ownsRow B 9 1 v n xs) (hC : w.ownsRow B' 3 1 vC m ys) : v.ownBlock = none ∨ v.ownBlock ≠ vC.ownBlock := by
  rcases h.2 with ⟨hv, _⟩ | ⟨g, cap, cur, hv, _, hg, _⟩
  · left; rw [hv]; rfl
  · right
    intro e
    rcases hC.2 with ⟨hv', _⟩ | ⟨g', cap', cur', hv', _, hg', _⟩
    · rw [hv, hv'] at e; cases e
    · rw [hv, hv'] at e
      cases e
      rw [hg] at hg'
      simp at hg'
theorem amongN {N : List U} {u : U} : amongB (N.map (·.1)) (N.map (·.2)) 0 N.length u = true ↔ u ∈ N := by
  rw [amongB_iff]
  constructor
  · rintro ⟨k, _, hk, he⟩
    unfold uAt at he
    simp [hk] at he
    rw [← he]
    exact List.getElem_mem hk
  · intro hu
    obtain ⟨k, hk, he⟩ := List.getElem_of_mem hu
    refine ⟨k, Nat.zero_le _, hk, ?_⟩
    unfold uAt
    simp [hk, he]

/-- The row of new units after the writes so far. -/
theorem news_stay {S : List En} {W : List U} {N : List U} {k : Nat} {u : U} (hk : k < W.length) (hu : W[k]?.getD (ByteArray.empty, 0) = u) (hN : N = newsOf S (W.take k)) (h : has S u ∨ u ∈ N) : N = newsOf S (W.take (k + 1)) := by
  rw [newsOf_snoc S W k hk u hu, ← hN, newsStep_stay h ix_isSome]
theorem news_new {S : List En} {W : List U} {N : List U} {k : Nat} {u : U} (hk : k < W.length) (hu : W[k]?.getD (ByteArray.empty, 0) = u) (hN : N = newsOf S (W.take k)) (h1 : ¬ has S u) (h2 : ¬ u ∈ N) : N ++ [u] = newsOf S (W.take (k + 1)) := by
  rw [newsOf_snoc S W k hk u hu, ← hN, newsStep_new h1 h2 ix_isSome]
theorem news_len {S : List En} {W N : List U} {k : Nat} (hN : N = newsOf S (W.take k)) : N.length ≤ k := by
  rw [hN]
  refine Nat.le_trans (newsOf_length _ _) ?_
  rw [List.length_take]
  omega

/-- The two rows grow by one. -/
theorem step_pair {X w1 w2 : World} {g : Nat} {vT vB vT' vB' : Value} {N : List U} {T : ByteArray} {Bk : Int} {o1 o2 : Obj}
    (hT : X.ownsRow g 9 1 vT N.length (sCells N)) (hB : X.ownsRow g 3 1 vB N.length (iCells N))
    (hown1 : w1.ownsRow g 9 1 vT' (N.length + 1) (sCells N ++ [.string T])) (hgrow1 : (X.alloc o1).grownBy w1 vT.ownBlock)
    (hown2 : w2.ownsRow g 3 1 vB' (N.length + 1) (iCells N ++ [.int .i64 Bk])) (hgrow2 : (w1.alloc o2).grownBy w2 vB.ownBlock) :
    w2.ownsRow g 9 1 vT' (N ++ [(T, Bk)]).length (sCells (N ++ [(T, Bk)])) ∧ w2.ownsRow g 3 1 vB' (N ++ [(T, Bk)]).length (iCells (N ++ [(T, Bk)])) := by
  have hB1 : w1.ownsRow g 3 1 vB N.length (iCells N) := (hB.alloc o1).kept hgrow1 (apartSI hT hB)
  rw [sCells_snoc, iCells_snoc, List.length_append]
  exact ⟨(hown1.alloc o2).kept hgrow2 (apartIS hown1 hB1), hown2⟩

theorem info68 : (Try.prog.info? 68).map (fun i => (i.zero, i.size, i.bytes)) = some (some (.agg #[.string ByteArray.empty, .int .i64 0, .int .u8 0, .int .i64 0, .string ByteArray.empty, .slice none 0 0, .slice none 0 0, .bool false, .int .i64 0]), 9, 120) := by kernel_rfl

/-- The row that loop 3 has filled. -/
theorem ents_row {sT : List ByteArray} {sB sC : List Int} {n : Nat} {c : Nat → Value} (h : ∀ i, i < n → c (i * 3) = .string (uAt sT sB i).1 ∧ c (i * 3 + 1) = .int .i64 (uAt sT sB i).2 ∧ c (i * 3 + 2) = .int .i64 (sC[i]?.getD 0)) :
    ∀ j, j < n * 3 → (entCells (entsOf sT sB sC n))[j]? = some (c j) := by
  intro j hj
  have hi : j / 3 < n := by omega
  have hc := entCells_get (entsOf sT sB sC n) (j / 3) (by rw [entsOf_length]; exact hi)
  rw [entsOf_get _ _ _ _ _ hi] at hc
  obtain ⟨h0, h1, h2⟩ := h (j / 3) hi
  have hr : j = j / 3 * 3 ∨ j = j / 3 * 3 + 1 ∨ j = j / 3 * 3 + 2 := by omega
  rcases hr with e | e | e
  · rw [e, hc.1, h0]
  · rw [e, hc.2.1, h1]
  · rw [e, hc.2.2, h2]

/-- The cells of one write. -/
def wrCell (u : U) : Nat → Value
  | 0 => .string u.1
  | 1 => .int .i64 u.2
  | 2 => .int .u8 0
  | 3 => .int .i64 0
  | 4 => .string ByteArray.empty
  | 5 => .slice none 0 0
  | 6 => .slice none 0 0
  | 7 => .bool false
  | _ => .int .i64 0
theorem writes_row {w : World} {g M : Nat} {c : Nat → Value} {W : List U} (hR : RowV w 68 g M c) (hM : M = W.length * 9) (h : ∀ i, i < W.length → ∀ k, k < 9 → c (i * 9 + k) = wrCell (W[i]?.getD (ByteArray.empty, 0)) k) : IsWrites w (some ⟨g, 0, none⟩) W := by
  intro _
  refine ⟨g, 0, rfl, hR.lt, fun j hj => ?_⟩
  have hx := h j hj
  have hc : ∀ k, k < 9 → w.cell? ⟨g, 0 + j * 9 + k, none⟩ = some (wrCell (W[j]?.getD (ByteArray.empty, 0)) k) := by
    intro k hk
    rw [Nat.zero_add, hR.cell _ (by omega), hx k hk]
  exact ⟨hc 0 (by omega), hc 1 (by omega), hc 2 (by omega), hc 3 (by omega), hc 4 (by omega), hc 5 (by omega), hc 6 (by omega), hc 7 (by omega), hc 8 (by omega)⟩

theorem RowV.drew {w : World} {E g M : Nat} {c : Nat → Value} (h : RowV w E g M c) : RowV w.drew E g M c := h
/-- One more write is laid. -/
theorem step_write {w0 wr : World} {g M j : Nat} {c : Nat → Value} {T e : ByteArray} {B : Int} {f : Nat → U} (he : e = ByteArray.empty) (hR : RowV wr 68 g M c) (hb : Below g w0 wr) (HC : ∀ i, i < j → ∀ k, k < 9 → c (i * 9 + k) = wrCell (f i) k) (hU : f j = (T, B)) :
    ∃ c', RowV (((((((((wr.setCell ⟨g, j * 9, none⟩ (.string T)).setCell ⟨g, j * 9 + 1, none⟩ (.int .i64 B)).setCell ⟨g, j * 9 + 2, none⟩ (.int .u8 0)).setCell ⟨g, j * 9 + 3, none⟩ (.int .i64 0)).setCell ⟨g, j * 9 + 4, none⟩ (.string e)).setCell ⟨g, j * 9 + 5, none⟩ (.slice none 0 0)).setCell ⟨g, j * 9 + 6, none⟩ (.slice none 0 0)).setCell ⟨g, j * 9 + 7, none⟩ (.bool false)).setCell ⟨g, j * 9 + 8, none⟩ (.int .i64 0)).drew 68 g M c' ∧ (∀ i, i < j + 1 → ∀ k, k < 9 → c' (i * 9 + k) = wrCell (f i) k) ∧ Below g w0 (((((((((wr.setCell ⟨g, j * 9, none⟩ (.string T)).setCell ⟨g, j * 9 + 1, none⟩ (.int .i64 B)).setCell ⟨g, j * 9 + 2, none⟩ (.int .u8 0)).setCell ⟨g, j * 9 + 3, none⟩ (.int .i64 0)).setCell ⟨g, j * 9 + 4, none⟩ (.string e)).setCell ⟨g, j * 9 + 5, none⟩ (.slice none 0 0)).setCell ⟨g, j * 9 + 6, none⟩ (.slice none 0 0)).setCell ⟨g, j * 9 + 7, none⟩ (.bool false)).setCell ⟨g, j * 9 + 8, none⟩ (.int .i64 0)).drew := by
  have h0 := hR.set (j * 9) (.string T)
  have h1 := h0.set (j * 9 + 1) (.int .i64 B)
  have h2 := h1.set (j * 9 + 2) (.int .u8 0)
  have h3 := h2.set (j * 9 + 3) (.int .i64 0)
  have h4 := h3.set (j * 9 + 4) (.string e)
  have h5 := h4.set (j * 9 + 5) (.slice none 0 0)
  have h6 := h5.set (j * 9 + 6) (.slice none 0 0)
  have h7 := h6.set (j * 9 + 7) (.bool false)
  have h8 := h7.set (j * 9 + 8) (.int .i64 0)
  have b0 := hb.setCell (p := ⟨g, j * 9, none⟩) (Nat.le_refl _) (.string T)
  have b1 := b0.setCell (p := ⟨g, j * 9 + 1, none⟩) (Nat.le_refl _) (.int .i64 B)
  have b2 := b1.setCell (p := ⟨g, j * 9 + 2, none⟩) (Nat.le_refl _) (.int .u8 0)
  have b3 := b2.setCell (p := ⟨g, j * 9 + 3, none⟩) (Nat.le_refl _) (.int .i64 0)
  have b4 := b3.setCell (p := ⟨g, j * 9 + 4, none⟩) (Nat.le_refl _) (.string e)
  have b5 := b4.setCell (p := ⟨g, j * 9 + 5, none⟩) (Nat.le_refl _) (.slice none 0 0)
  have b6 := b5.setCell (p := ⟨g, j * 9 + 6, none⟩) (Nat.le_refl _) (.slice none 0 0)
  have b7 := b6.setCell (p := ⟨g, j * 9 + 7, none⟩) (Nat.le_refl _) (.bool false)
  have b8 := b7.setCell (p := ⟨g, j * 9 + 8, none⟩) (Nat.le_refl _) (.int .i64 0)
  refine ⟨_, h8.drew, fun i hi k hk => ?_, b8.drew⟩
  by_cases e : i = j
  · subst e
    rw [hU]
    match k, hk with
    | 0, _ => simp [wrCell]
    | 1, _ => simp [wrCell]
    | 2, _ => simp [wrCell]
    | 3, _ => simp [wrCell]
    | 4, _ => simp [wrCell, he]
    | 5, _ => simp [wrCell]
    | 6, _ => simp [wrCell]
    | 7, _ => simp [wrCell]
    | 8, _ => simp [wrCell]
  · rw [← HC i (by omega) k hk, if_neg (by omega), if_neg (by omega), if_neg (by omega), if_neg (by omega), if_neg (by omega), if_neg (by omega), if_neg (by omega), if_neg (by omega), if_neg (by omega)]

theorem Fr.toBelow {w w' : World} {p B : Nat} {v0 : Value} (h : Fr w p v0 w') (hB : B ≤ w.heap.size) (hp : B ≤ p) (hv : ∀ k, v0.ownBlock = some k → B ≤ k) : Below B w w' :=
  ⟨h.os, h.tape, h.output, h.size, fun k hk => h.block k (by omega) (by omega) (fun e => by have := hv k e.symm; omega)⟩

/-- What the law reads of the entries that Add has left. -/
theorem end_old {sT : List ByteArray} {sB sC : List Int} {wT : List ByteArray} {wB : List Int} {n m j : Nat} (h : j < n) :
    ((runA inc1 (entsOf sT sB sC n) (writesOf wT wB m)).1[j]?.getD e0).1 = uAt sT sB j := by
  have M := add_model inc1 (entsOf sT sB sC n) (writesOf wT wB m)
  have hu := M.unit j (by rw [entsOf_length]; exact h)
  unfold un at hu
  rw [hu, entsOf_get _ _ _ _ _ h]
theorem end_new {sT : List ByteArray} {sB sC : List Int} {wT : List ByteArray} {wB : List Int} {n m i : Nat} {N : List U} (hN : N = newsOf (entsOf sT sB sC n) (writesOf wT wB m)) (h : i < N.length) :
    (runA inc1 (entsOf sT sB sC n) (writesOf wT wB m)).1[n + i]?.getD e0 = (N[i]?.getD (ByteArray.empty, 0), 1) := by
  have M := add_model inc1 (entsOf sT sB sC n) (writesOf wT wB m)
  rw [← hN] at M
  have hu := M.news i h
  rw [entsOf_length] at hu
  exact hu
theorem end_len {sT : List ByteArray} {sB sC : List Int} {wT : List ByteArray} {wB : List Int} {n m : Nat} {N : List U} (hN : N = newsOf (entsOf sT sB sC n) (writesOf wT wB m)) :
    (runA inc1 (entsOf sT sB sC n) (writesOf wT wB m)).1.length = n + N.length := by
  have M := add_model inc1 (entsOf sT sB sC n) (writesOf wT wB m)
  rw [← hN] at M
  rw [M.len, entsOf_length]
end Go.Proofs.Qxb6600999a.W
