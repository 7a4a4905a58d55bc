/-
  PLAIN: units, entries and what Add does to them. No Go in sight.
-/
namespace Go.Proofs.Qxb6600999a.Plain

/-- A unit: a table and a bucket. An entry: a unit and its count. -/
abbrev U := ByteArray × Int
abbrev En := U × Int
def e0 : En := ((ByteArray.empty, 0), 0)

/-- The place of a unit among entries. -/
def ix (S : List En) (u : U) : Option Nat := S.findIdx? (fun e => decide (e.1 = u))

theorem ix_some {S : List En} {u : U} {k : Nat} (hk : k < S.length) (h : (S[k]?.getD e0).1 = u) (hb : ∀ j, j < k → ¬ (S[j]?.getD e0).1 = u) : ix S u = some k := by
  unfold ix
  rw [List.findIdx?_eq_some_iff_getElem]
  refine ⟨hk, ?_, fun j hj => ?_⟩
  · rw [List.getElem?_eq_getElem hk] at h; simpa using h
  · have := hb j hj
    rw [List.getElem?_eq_getElem (by omega)] at this; simpa using this
theorem ix_none {S : List En} {u : U} (hb : ∀ j, j < S.length → ¬ (S[j]?.getD e0).1 = u) : ix S u = none := by
  unfold ix
  rw [List.findIdx?_eq_none_iff]
  intro x hx
  obtain ⟨j, hj, rfl⟩ := List.mem_iff_getElem.1 hx
  have := hb j hj
  rw [List.getElem?_eq_getElem hj] at this
  simpa using this
theorem ix_lt {S : List En} {u : U} {k : Nat} (h : ix S u = some k) : k < S.length ∧ (S[k]?.getD e0).1 = u ∧ ∀ j, j < k → ¬ (S[j]?.getD e0).1 = u := by
  unfold ix at h
  rw [List.findIdx?_eq_some_iff_getElem] at h
  obtain ⟨hk, h1, h2⟩ := h
  refine ⟨hk, ?_, fun j hj => ?_⟩
  · rw [List.getElem?_eq_getElem hk]; simpa using h1
  · rw [List.getElem?_eq_getElem (by omega)]; simpa using h2 j hj
theorem ix_no {S : List En} {u : U} (h : ix S u = none) : ∀ j, j < S.length → ¬ (S[j]?.getD e0).1 = u := by
  unfold ix at h
  rw [List.findIdx?_eq_none_iff] at h
  intro j hj
  rw [List.getElem?_eq_getElem hj]
  simpa using h _ (List.getElem_mem hj)


/-- One more in the entry at a place. -/
def bump (inc : Int → Int) (S : List En) (j : Nat) : List En := S.set j ((S[j]?.getD e0).1, inc (S[j]?.getD e0).2)

/-- What Add does at one write: the entries, and the places counted so far. -/
def stepA (inc : Int → Int) (start : Nat) (st : List En × List Nat) (u : U) : List En × List Nat :=
  match ix st.1 u with
  | none => (st.1 ++ [(u, 1)], st.2)
  | some j => if j < start ∧ ¬ j ∈ st.2 then (bump inc st.1 j, st.2 ++ [j]) else st

def runA (inc : Int → Int) (S : List En) (W : List U) : List En × List Nat := W.foldl (stepA inc S.length) (S, [])

theorem runA_snoc (inc : Int → Int) (S : List En) (W : List U) (k : Nat) (hk : k < W.length) (u : U) (hu : W[k]?.getD (ByteArray.empty, 0) = u) :
    runA inc S (W.take (k + 1)) = stepA inc S.length (runA inc S (W.take k)) u := by
  have : W.take (k + 1) = W.take k ++ [u] := by
    rw [List.take_succ_eq_append_getElem hk]
    rw [List.getElem?_eq_getElem hk] at hu
    rw [← hu]; rfl
  unfold runA
  rw [this, List.foldl_append]
  rfl

theorem stepA_none {inc : Int → Int} {start : Nat} {st : List En × List Nat} {u : U} (h : ix st.1 u = none) : stepA inc start st u = (st.1 ++ [(u, 1)], st.2) := by
  unfold stepA; rw [h]
theorem stepA_bump {inc : Int → Int} {start : Nat} {st : List En × List Nat} {u : U} {j : Nat} (h : ix st.1 u = some j) (h1 : j < start) (h2 : ¬ j ∈ st.2) : stepA inc start st u = (bump inc st.1 j, st.2 ++ [j]) := by
  unfold stepA; rw [h]; simp only; rw [if_pos ⟨h1, h2⟩]
theorem stepA_stay {inc : Int → Int} {start : Nat} {st : List En × List Nat} {u : U} {j : Nat} (h : ix st.1 u = some j) (h1 : ¬ (j < start ∧ ¬ j ∈ st.2)) : stepA inc start st u = st := by
  unfold stepA; rw [h]; simp only; rw [if_neg h1]

theorem bump_length (inc : Int → Int) (S : List En) (j : Nat) : (bump inc S j).length = S.length := by simp [bump]
theorem stepA_length (inc : Int → Int) (start : Nat) (st : List En × List Nat) (u : U) : st.1.length ≤ (stepA inc start st u).1.length ∧ (stepA inc start st u).1.length ≤ st.1.length + 1 ∧ (stepA inc start st u).2.length ≤ st.2.length + 1 := by
  unfold stepA
  split
  · simp
  · split
    · simp [bump_length]
    · simp
theorem runA_length (inc : Int → Int) (S : List En) (W : List U) : S.length ≤ (runA inc S W).1.length ∧ (runA inc S W).1.length ≤ S.length + W.length ∧ (runA inc S W).2.length ≤ W.length := by
  have : ∀ (W : List U) (st : List En × List Nat), st.1.length ≤ (W.foldl (stepA inc S.length) st).1.length ∧ (W.foldl (stepA inc S.length) st).1.length ≤ st.1.length + W.length ∧ (W.foldl (stepA inc S.length) st).2.length ≤ st.2.length + W.length := by
    intro W
    induction W with
    | nil => intro st; simp
    | cons u W ih =>
      intro st
      have h1 := ih (stepA inc S.length st u)
      have h2 := stepA_length inc S.length st u
      simp only [List.foldl_cons, List.length_cons]
      omega
  have h := this W (S, [])
  simpa [runA] using h

/-- The units of the entries: a bump keeps them. -/
theorem bump_get (inc : Int → Int) (S : List En) (j k : Nat) (hj : j < S.length) : (bump inc S j)[k]?.getD e0 = if k = j then ((S[j]?.getD e0).1, inc (S[j]?.getD e0).2) else S[k]?.getD e0 := by
  unfold bump
  rw [List.getElem?_set]
  by_cases h : j = k
  · subst h; simp [hj]
  · simp [h, Ne.symm h]
theorem ix_bump (inc : Int → Int) (S : List En) (j : Nat) (u : U) : ix (bump inc S j) u = ix S u := by
  by_cases hj : j < S.length
  · have hu : ∀ k : Nat, ((bump inc S j)[k]?.getD e0).1 = (S[k]?.getD e0).1 := by
      intro k
      rw [bump_get inc S j k hj]
      split
      · subst_vars; rfl
      · rfl
    cases h : ix S u with
    | none => exact ix_none (fun k hk => by rw [hu]; exact ix_no h k (by rw [bump_length] at hk; exact hk))
    | some k =>
      obtain ⟨h1, h2, h3⟩ := ix_lt h
      exact ix_some (by rw [bump_length]; exact h1) (by rw [hu]; exact h2) (fun m hm => by rw [hu]; exact h3 m hm)
  · have : bump inc S j = S := by unfold bump; exact List.set_eq_of_length_le (by omega)
    rw [this]
theorem ix_snoc_none {S : List En} {u : U} (h : ix S u = none) : ix (S ++ [(u, 1)]) u = some S.length := by
  refine ix_some (by simp) (by simp) (fun j hj => ?_)
  rw [List.getElem?_append_left hj]
  exact ix_no h j hj

/-- A second write in the same unit changes nothing. -/
theorem stepA_twice (inc : Int → Int) (start : Nat) (st : List En × List Nat) (u : U) (hs : start ≤ st.1.length) : stepA inc start (stepA inc start st u) u = stepA inc start st u := by
  cases h : ix st.1 u with
  | none =>
    rw [stepA_none h]
    exact stepA_stay (ix_snoc_none h) (fun h' => by have := h'.1; omega)
  | some j =>
    by_cases h1 : j < start ∧ ¬ j ∈ st.2
    · rw [stepA_bump h h1.1 h1.2]
      refine stepA_stay (j := j) (by rw [ix_bump]; exact h) (fun h' => h'.2 (by simp))
    · rw [stepA_stay h h1]
      exact stepA_stay h h1

theorem runA_same (inc : Int → Int) (S : List En) (W : List U) (k : Nat) (hk : k + 1 < W.length) (h : W[k + 1]?.getD (ByteArray.empty, 0) = W[k]?.getD (ByteArray.empty, 0)) :
    runA inc S (W.take (k + 1 + 1)) = runA inc S (W.take (k + 1)) := by
  rw [runA_snoc inc S W (k + 1) hk _ h, runA_snoc inc S W k (by omega) _ rfl]
  exact stepA_twice _ _ _ _ (runA_length inc S _).1

end Go.Proofs.Qxb6600999a.Plain
