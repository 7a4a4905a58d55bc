import Derived.Test.Qxb6600999aLaw8V
namespace Go.Proofs.Qxb6600999a.W
open Go.RowKit Go.Proofs.Qxb6600999a.Plain
set_option linter.unusedVariables false

/-! ### The plain law of a script of calls. No Go in sight. -/
/-- Where call number c begins. -/
def posA (ls : List Int) (m : Nat) : Nat → Nat
  | 0 => 0
  | c + 1 => if (m : Int) - (posA ls m c : Int) ≤ ls[c]?.getD 0 then m else posA ls m c + (ls[c]?.getD 0).toNat
theorem posA_le (ls : List Int) (m : Nat) : ∀ c, posA ls m c ≤ m
  | 0 => Nat.zero_le _
  | c + 1 => by
    have := posA_le ls m c
    unfold posA
    split
    · omega
    · omega
theorem posA_mono (ls : List Int) (m c : Nat) : posA ls m c ≤ posA ls m (c + 1) := by
  have := posA_le ls m c
  rw [posA]
  split
  · omega
  · omega
/-- The writes from a to b. -/
def segA (W : List U) (a b : Nat) : List U := (W.drop a).take (b - a)
theorem segA_length {W : List U} {a b : Nat} (h2 : b ≤ W.length) : (segA W a b).length = b - a := by
  simp [segA]; omega
theorem segA_get {W : List U} {a b j : Nat} (h : j < b - a) : (segA W a b)[j]? = W[a + j]? := by
  unfold segA
  rw [List.getElem?_take, if_pos h, List.getElem?_drop]
theorem take_seg {W : List U} {a b : Nat} (h1 : a ≤ b) : W.take b = W.take a ++ segA W a b := by
  have : b = a + (b - a) := by omega
  rw [this, List.take_add]
  unfold segA
  rw [show a + (b - a) - a = b - a from by omega]
theorem mem_seg {wT : List ByteArray} {wB : List Int} {m a b : Nat} {u : U} (h1 : a ≤ b) (h2 : b ≤ m) : u ∈ segA (writesOf wT wB m) a b ↔ amongB wT wB a b u = true := by
  rw [amongB_iff]
  have hl := segA_length (W := writesOf wT wB m) (a := a) (b := b) (by rw [writesOf_length]; exact h2)
  constructor
  · intro hu
    obtain ⟨i, hi, he⟩ := List.getElem_of_mem hu
    rw [hl] at hi
    refine ⟨a + i, by omega, by omega, ?_⟩
    have hg := segA_get (W := writesOf wT wB m) hi
    rw [List.getElem?_eq_getElem (by rw [hl]; exact hi), he] at hg
    have := writesOf_get wT wB m (a + i) (by omega)
    rw [← hg] at this
    exact this.symm
  · rintro ⟨k, hk1, hk2, he⟩
    have hg := segA_get (W := writesOf wT wB m) (a := a) (b := b) (j := k - a) (by omega)
    rw [show a + (k - a) = k from by omega] at hg
    have hw := writesOf_get wT wB m k (by omega)
    have hlt : k - a < (segA (writesOf wT wB m) a b).length := by rw [hl]; omega
    rw [← hg, List.getElem?_eq_getElem hlt] at hw
    rw [he] at hw
    have hw' : (segA (writesOf wT wB m) a b)[k - a] = u := hw
    rw [← hw']
    exact List.getElem_mem hlt

/-- The entries after c calls. -/
def stA (ls : List Int) (W : List U) : Nat → List En
  | 0 => []
  | c + 1 => (runA inc1 (stA ls W c) (segA W (posA ls W.length c) (posA ls W.length (c + 1)))).1
/-- How many of the first c calls wrote the unit. -/
def cntA (ls : List Int) (wT : List ByteArray) (wB : List Int) (m : Nat) (u : U) : Nat → Nat
  | 0 => 0
  | c + 1 => cntA ls wT wB m u c + if amongB wT wB (posA ls m c) (posA ls m (c + 1)) u = true then 1 else 0
theorem cntA_le (ls : List Int) (wT : List ByteArray) (wB : List Int) (m : Nat) (u : U) : ∀ c, cntA ls wT wB m u c ≤ c
  | 0 => Nat.le_refl _
  | c + 1 => by
    have := cntA_le ls wT wB m u c
    unfold cntA
    split <;> omega
theorem cntA_zero {ls : List Int} {wT : List ByteArray} {wB : List Int} {m : Nat} {u : U} : ∀ c, u ∉ (writesOf wT wB m).take (posA ls m c) → cntA ls wT wB m u c = 0
  | 0, _ => rfl
  | c + 1, h => by
    rw [take_seg (posA_mono ls m c)] at h
    simp only [List.mem_append, not_or] at h
    rw [cntA, cntA_zero c h.1, if_neg]
    intro e
    exact h.2 ((mem_seg (posA_mono ls m c) (posA_le ls m (c + 1))).2 e)

theorem has_map {S : List En} {u : U} : has S u ↔ u ∈ S.map (·.1) := by
  unfold has un
  constructor
  · rintro ⟨j, hj, he⟩
    rw [List.getElem?_eq_getElem hj] at he
    rw [← he]
    exact List.mem_map.2 ⟨S[j], List.getElem_mem hj, rfl⟩
  · intro h
    obtain ⟨e, he, hu⟩ := List.mem_map.1 h
    obtain ⟨j, hj, hje⟩ := List.getElem_of_mem he
    refine ⟨j, hj, ?_⟩
    rw [List.getElem?_eq_getElem hj, hje]
    exact hu
theorem no_has_nil {u : U} : ¬ has [] u := by rintro ⟨j, hj, _⟩; simp at hj
theorem news_mem (W : List U) : ∀ (N : List U) (u : U), u ∈ W.foldl (newsStep []) N ↔ u ∈ N ∨ u ∈ W := by
  induction W with
  | nil => intro N u; simp
  | cons x W ih =>
    intro N u
    rw [List.foldl_cons, ih]
    by_cases hx : x ∈ N
    · rw [newsStep_stay (Or.inr hx) ix_isSome]
      simp only [List.mem_cons]
      constructor
      · rintro (h | h)
        · exact Or.inl h
        · exact Or.inr (Or.inr h)
      · rintro (h | h | h)
        · exact Or.inl h
        · exact Or.inl (by rw [h]; exact hx)
        · exact Or.inr h
    · rw [newsStep_new no_has_nil hx ix_isSome]
      simp only [List.mem_append, List.mem_cons, List.not_mem_nil, or_false, or_assoc]
theorem news_nodup (S : List En) (W : List U) : ∀ N : List U, N.Nodup → (W.foldl (newsStep S) N).Nodup := by
  induction W with
  | nil => intro N h; exact h
  | cons x W ih =>
    intro N h
    rw [List.foldl_cons]
    apply ih
    by_cases hx : has S x ∨ x ∈ N
    · rw [newsStep_stay hx ix_isSome]; exact h
    · rw [newsStep_new (fun e => hx (Or.inl e)) (fun e => hx (Or.inr e)) ix_isSome]
      rw [List.nodup_append]
      refine ⟨h, by simp, ?_⟩
      intro a ha b hb e
      simp only [List.mem_singleton] at hb
      exact hx (Or.inr (by rw [← hb, ← e]; exact ha))
theorem news_split {S : List En} {N0 : List U} (hS : ∀ u, has S u ↔ u ∈ N0) (W : List U) : ∀ N : List U, W.foldl (newsStep []) (N0 ++ N) = N0 ++ W.foldl (newsStep S) N := by
  induction W with
  | nil => intro N; rfl
  | cons x W ih =>
    intro N
    rw [List.foldl_cons, List.foldl_cons]
    by_cases hx : has S x ∨ x ∈ N
    · rw [newsStep_stay hx ix_isSome, newsStep_stay (Or.inr ?_) ix_isSome, ih]
      rcases hx with h | h
      · exact List.mem_append_left _ ((hS x).1 h)
      · exact List.mem_append_right _ h
    · rw [newsStep_new (S := S) (fun e => hx (Or.inl e)) (fun e => hx (Or.inr e)) ix_isSome, newsStep_new no_has_nil ?_ ix_isSome, List.append_assoc, ih]
      intro h
      rcases List.mem_append.1 h with h | h
      · exact hx (Or.inl ((hS x).2 h))
      · exact hx (Or.inr h)

/-- THE LAW: after c calls the units stand in the order of their first write, each with the number of calls that wrote it. -/
theorem script_law (ls : List Int) (wT : List ByteArray) (wB : List Int) (m : Nat) : ∀ c, c ≤ 100000 →
    (stA ls (writesOf wT wB m) c).map (·.1) = newsOf [] ((writesOf wT wB m).take (posA ls m c)) ∧
    ∀ k, k < (stA ls (writesOf wT wB m) c).length → ((stA ls (writesOf wT wB m) c)[k]?.getD e0).2 = (cntA ls wT wB m (un (stA ls (writesOf wT wB m) c) k) c : Int) := by
  intro c
  induction c with
  | zero =>
    intro _
    refine ⟨?_, fun k hk => ?_⟩
    · simp [stA, posA, newsOf]
    · simp [stA] at hk
  | succ c ih =>
    intro hc
    obtain ⟨h1, h2⟩ := ih (by omega)
    have hW : (writesOf wT wB m).length = m := writesOf_length _ _ _
    have hst : stA ls (writesOf wT wB m) (c + 1) = (runA inc1 (stA ls (writesOf wT wB m) c) (segA (writesOf wT wB m) (posA ls m c) (posA ls m (c + 1)))).1 := by
      rw [stA, hW]
    have M := add_model inc1 (stA ls (writesOf wT wB m) c) (segA (writesOf wT wB m) (posA ls m c) (posA ls m (c + 1)))
    rw [hst]
    have hpm := posA_mono ls m c
    have hpl := posA_le ls m (c + 1)
    have hcnt : ∀ u, cntA ls wT wB m u (c + 1) = cntA ls wT wB m u c + if amongB wT wB (posA ls m c) (posA ls m (c + 1)) u = true then 1 else 0 := fun u => rfl
    have hseg : ∀ u, u ∈ segA (writesOf wT wB m) (posA ls m c) (posA ls m (c + 1)) ↔ amongB wT wB (posA ls m c) (posA ls m (c + 1)) u = true := fun u => mem_seg hpm hpl
    have hz : ∀ u, u ∉ (writesOf wT wB m).take (posA ls m c) → cntA ls wT wB m u c = 0 := fun u => cntA_zero c
    have hle : ∀ u, cntA ls wT wB m u c ≤ c := fun u => cntA_le ls wT wB m u c
    have htk : (writesOf wT wB m).take (posA ls m (c + 1)) = (writesOf wT wB m).take (posA ls m c) ++ segA (writesOf wT wB m) (posA ls m c) (posA ls m (c + 1)) := take_seg hpm
    rw [htk]
    generalize stA ls (writesOf wT wB m) c = S at *
    generalize segA (writesOf wT wB m) (posA ls m c) (posA ls m (c + 1)) = G at *
    generalize (writesOf wT wB m).take (posA ls m c) = A at *
    have hhas : ∀ u, has S u ↔ u ∈ newsOf [] A := fun u => by rw [has_map, h1]
    have hmem : ∀ u, u ∈ newsOf [] A ↔ u ∈ A := fun u => by
      have := news_mem A [] u
      unfold newsOf
      rw [this]
      simp
    have hnd : (S.map (·.1)).Nodup := by rw [h1]; exact news_nodup [] A [] (by simp)
    have hfst : ∀ j, j < S.length → firstAt S j := by
      intro j hj i hi e
      unfold un at e
      rw [List.getElem?_eq_getElem hj, List.getElem?_eq_getElem (by omega : i < S.length)] at e
      have := (List.nodup_iff_pairwise_ne.1 hnd)
      rw [List.pairwise_iff_getElem] at this
      have h := this i j (by rw [List.length_map]; omega) (by rw [List.length_map]; exact hj) hi
      simp only [List.getElem_map] at h
      exact h e
    have hsplit : newsOf [] (A ++ G) = newsOf [] A ++ newsOf S G := by
      unfold newsOf
      rw [List.foldl_append]
      have := news_split (S := S) (N0 := A.foldl (newsStep []) []) hhas G []
      rw [List.append_nil] at this
      exact this
    refine ⟨?_, ?_⟩
    · rw [hsplit, ← h1]
      apply List.ext_getElem
      · rw [List.length_map, M.len, List.length_append, List.length_map]
      · intro j hj1 hj2
        rw [List.length_map] at hj1
        rw [List.getElem_map]
        by_cases hjS : j < S.length
        · have hu := M.unit j hjS
          unfold un at hu
          rw [List.getElem?_eq_getElem hj1, List.getElem?_eq_getElem hjS] at hu
          rw [List.getElem_append_left (by rw [List.length_map]; exact hjS), List.getElem_map]
          exact hu
        · have hl := M.len
          have hn := M.news (j - S.length) (by omega)
          rw [show S.length + (j - S.length) = j from by omega, List.getElem?_eq_getElem hj1] at hn
          rw [List.getElem_append_right (by rw [List.length_map]; omega)]
          have hn1 := congrArg Prod.fst hn
          simp only [Option.getD_some, List.length_map] at hn1 ⊢
          rw [hn1, List.getElem?_eq_getElem (by omega)]
          rfl
    · intro k hk
      by_cases hkS : k < S.length
      · rw [M.unit k hkS, hcnt]
        by_cases hin : un S k ∈ G
        · rw [M.gain k hkS (hfst k hkS) hin, h2 k hkS, if_pos ((hseg _).1 hin)]
          have := hle (un S k)
          unfold inc1 wrap64
          omega
        · rw [M.keep k hkS (fun h => hin h.2), h2 k hkS, if_neg (fun h => hin ((hseg _).2 h))]
          rfl
      · have hl := M.len
        have hn := M.news (k - S.length) (by omega)
        rw [show S.length + (k - S.length) = k from by omega] at hn
        have hmemN : (newsOf S G)[k - S.length]?.getD (ByteArray.empty, 0) ∈ newsOf S G := getD_mem (by omega)
        obtain ⟨hg, hnh⟩ := M.newsMem _ hmemN
        unfold un
        rw [hn, hcnt, if_pos ((hseg _).1 hg), hz _ (fun h => hnh ((hhas _).2 ((hmem _).2 h)))]
        rfl
end Go.Proofs.Qxb6600999a.W
