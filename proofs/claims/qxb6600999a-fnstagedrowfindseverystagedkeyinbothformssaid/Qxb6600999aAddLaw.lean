/-
  THE PLAIN LAW OF Add: after it an entry that was counted keeps its place and gains one exactly where it is the first of its unit and some write is in that unit; behind them stand the new units, each once, in the order they first occur.
-/
import Derived.Test.Qxb6600999aAddPlain
namespace Go.Proofs.Qxb6600999a.Plain

/-- The unit of the entry at a place. -/
def un (S : List En) (j : Nat) : U := (S[j]?.getD e0).1
/-- It is the first of its unit. -/
def firstAt (S : List En) (j : Nat) : Prop := ∀ i, i < j → ¬ un S i = un S j
/-- Some entry is of the unit. -/
def has (S : List En) (u : U) : Prop := ∃ j, j < S.length ∧ un S j = u

/-- The new units, each once, in the order they first occur. -/
def newsStep (S : List En) (N : List U) (u : U) : List U := if ((ix S u).isSome || N.any (fun x => decide (x = u))) = true then N else N ++ [u]
theorem any_mem {N : List U} {u : U} : N.any (fun x => decide (x = u)) = true ↔ u ∈ N := by
  rw [List.any_eq_true]
  constructor
  · rintro ⟨x, h1, h2⟩
    simp only [decide_eq_true_eq] at h2
    exact h2 ▸ h1
  · intro h
    exact ⟨u, h, by simp⟩
theorem newsStep_stay {S : List En} {N : List U} {u : U} (h : has S u ∨ u ∈ N) (hh : (ix S u).isSome = true ↔ has S u) : newsStep S N u = N := by
  unfold newsStep
  rw [if_pos]
  rw [Bool.or_eq_true]
  rcases h with h | h
  · exact Or.inl (hh.2 h)
  · exact Or.inr (any_mem.2 h)
theorem newsStep_new {S : List En} {N : List U} {u : U} (h1 : ¬ has S u) (h2 : ¬ u ∈ N) (hh : (ix S u).isSome = true ↔ has S u) : newsStep S N u = N ++ [u] := by
  unfold newsStep
  rw [if_neg]
  rw [Bool.or_eq_true]
  rintro (h | h)
  · exact h1 (hh.1 h)
  · exact h2 (any_mem.1 h)
def newsOf (S : List En) (W : List U) : List U := W.foldl (newsStep S) []

theorem ix_isSome {S : List En} {u : U} : (ix S u).isSome = true ↔ has S u := by
  cases h : ix S u with
  | none =>
    simp only [Option.isSome_none, Bool.false_eq_true, false_iff]
    rintro ⟨j, hj, hu⟩
    exact ix_no h j hj hu
  | some k =>
    simp only [Option.isSome_some, true_iff]
    obtain ⟨h1, h2, _⟩ := ix_lt h
    exact ⟨k, h1, h2⟩

structure Model (inc : Int → Int) (S : List En) (W : List U) (R : List En × List Nat) (N : List U) : Prop where
  len : R.1.length = S.length + N.length
  unit : ∀ j, j < S.length → un R.1 j = un S j
  gain : ∀ j, j < S.length → firstAt S j → un S j ∈ W → (R.1[j]?.getD e0).2 = inc (S[j]?.getD e0).2
  keep : ∀ j, j < S.length → ¬ (firstAt S j ∧ un S j ∈ W) → (R.1[j]?.getD e0).2 = (S[j]?.getD e0).2
  news : ∀ a, a < N.length → R.1[S.length + a]?.getD e0 = ((N[a]?.getD (ByteArray.empty, 0)), 1)
  counted : ∀ j, j ∈ R.2 ↔ j < S.length ∧ firstAt S j ∧ un S j ∈ W
  newsMem : ∀ u, u ∈ N → u ∈ W ∧ ¬ has S u

theorem getD_mem {N : List U} {a : Nat} (h : a < N.length) : N[a]?.getD (ByteArray.empty, 0) ∈ N := by
  rw [List.getElem?_eq_getElem h]; exact List.getElem_mem h
theorem mem_getD {N : List U} {u : U} (h : u ∈ N) : ∃ a, a < N.length ∧ N[a]?.getD (ByteArray.empty, 0) = u := by
  obtain ⟨a, ha, e⟩ := List.mem_iff_getElem.1 h
  exact ⟨a, ha, by rw [List.getElem?_eq_getElem ha]; exact e⟩

theorem model_start (inc : Int → Int) (S : List En) : Model inc S [] (S, []) [] :=
  ⟨by simp, fun _ _ => rfl, fun _ _ _ h => by simp at h, fun _ _ _ => rfl, fun a h => by simp at h, fun j => by simp, fun u h => by simp at h⟩

theorem model_step {inc : Int → Int} {S : List En} {W : List U} {R : List En × List Nat} {N : List U} (M : Model inc S W R N) (u : U) :
    Model inc S (W ++ [u]) (stepA inc S.length R u) (newsStep S N u) := by
  have hmem : ∀ x, x ∈ W ++ [u] ↔ x ∈ W ∨ x = u := fun x => by simp
  cases hx : ix S u with
  | some j =>
    obtain ⟨hj, hju, hjf⟩ := ix_lt hx
    have hjR : ix R.1 u = some j := by
      refine ix_some (by rw [M.len]; omega) ?_ (fun i hi => ?_)
      · have := M.unit j hj; unfold un at this; rw [this]; exact hju
      · have := M.unit i (by omega); unfold un at this; rw [this]; exact hjf i hi
    have hfj : firstAt S j := fun i hi => by unfold un; rw [hju]; exact hjf i hi
    have huj : un S j = u := hju
    have hN : newsStep S N u = N := newsStep_stay (Or.inl ⟨j, hj, hju⟩) ix_isSome
    have huniq : ∀ i, i < S.length → firstAt S i → un S i = u → i = j := by
      intro i hi hf he
      rcases Nat.lt_trichotomy i j with h | h | h
      · exact absurd he (by have := hjf i h; exact this)
      · exact h
      · exact absurd (huj.trans he.symm) (hf j h)
    rw [hN]
    by_cases hC : j ∈ R.2
    · have huW : u ∈ W := by have := (M.counted j).1 hC; rw [← huj]; exact this.2.2
      have hW : ∀ x, x ∈ W ++ [u] ↔ x ∈ W := fun x => by rw [hmem]; exact ⟨fun h => h.elim id (fun e => e ▸ huW), Or.inl⟩
      rw [stepA_stay hjR (fun h => h.2 hC)]
      exact ⟨M.len, M.unit, fun i hi hf h => M.gain i hi hf ((hW _).1 h), fun i hi h => M.keep i hi (fun h' => h ⟨h'.1, (hW _).2 h'.2⟩), M.news, fun i => by rw [M.counted, hW], fun x hx => ⟨(hW _).2 (M.newsMem x hx).1, (M.newsMem x hx).2⟩⟩
    · have huW : ¬ u ∈ W := fun h => hC ((M.counted j).2 ⟨hj, hfj, by rw [huj]; exact h⟩)
      rw [stepA_bump hjR hj hC]
      have hjl : j < R.1.length := by rw [M.len]; omega
      have hg := fun i => bump_get inc R.1 j i hjl
      refine ⟨by rw [bump_length]; exact M.len, fun i hi => ?_, fun i hi hf h => ?_, fun i hi h => ?_, fun a ha => ?_, fun i => ?_, fun x hx => ⟨(hmem _).2 (Or.inl (M.newsMem x hx).1), (M.newsMem x hx).2⟩⟩
      · have := M.unit i hi
        unfold un at this ⊢
        rw [hg]
        split
        · subst_vars; exact this
        · exact this
      · rw [hg]
        rcases (hmem _).1 h with h | h
        · rw [if_neg (fun e => by subst e; exact huW (by rw [← huj]; exact h))]; exact M.gain i hi hf h
        · have e := huniq i hi hf h
          subst e
          rw [if_pos rfl]
          show inc (R.1[i]?.getD e0).2 = _
          rw [M.keep i hi (fun h' => huW (by rw [← huj]; exact h'.2))]
      · rw [hg]
        rw [if_neg (fun e => by subst e; exact h ⟨hfj, (hmem _).2 (Or.inr huj)⟩)]
        exact M.keep i hi (fun h' => h ⟨h'.1, (hmem _).2 (Or.inl h'.2)⟩)
      · rw [hg, if_neg (by omega)]; exact M.news a ha
      · rw [List.mem_append, M.counted, hmem]
        constructor
        · rintro (h | h)
          · exact ⟨h.1, h.2.1, Or.inl h.2.2⟩
          · simp only [List.mem_singleton] at h
            subst h
            exact ⟨hj, hfj, Or.inr huj⟩
        · rintro ⟨h1, h2, h3 | h3⟩
          · exact Or.inl ⟨h1, h2, h3⟩
          · exact Or.inr (by rw [huniq i h1 h2 h3]; simp)
  | none =>
    have hno : ∀ j, j < S.length → ¬ un S j = u := ix_no hx
    have hhas : ¬ has S u := fun ⟨j, hj, h⟩ => hno j hj h
    have hW : ∀ j, j < S.length → (un S j ∈ W ++ [u] ↔ un S j ∈ W) := fun j hj => by rw [hmem]; exact ⟨fun h => h.elim id (fun e => absurd e (hno j hj)), Or.inl⟩
    by_cases hN : u ∈ N
    · obtain ⟨a, ha, hau⟩ := mem_getD hN
      have hns : newsStep S N u = N := newsStep_stay (Or.inr hN) ix_isSome
      rw [hns]
      have hex : ∃ k, ix R.1 u = some k ∧ S.length ≤ k := by
        cases hk : ix R.1 u with
        | none =>
          have := ix_no hk (S.length + a) (by rw [M.len]; omega)
          rw [M.news a ha] at this
          exact absurd hau this
        | some k =>
          refine ⟨k, rfl, ?_⟩
          rcases Nat.lt_or_ge k S.length with h | h
          · have h2 := (ix_lt hk).2.1
            have h3 := M.unit k h
            unfold un at h3
            rw [h3] at h2
            exact absurd h2 (hno k h)
          · exact h
      obtain ⟨k, hk, hks⟩ := hex
      rw [stepA_stay hk (fun h => by omega)]
      exact ⟨M.len, M.unit, fun i hi hf h => M.gain i hi hf ((hW i hi).1 h), fun i hi h => M.keep i hi (fun h' => h ⟨h'.1, (hW i hi).2 h'.2⟩), M.news, fun i => by
        rw [M.counted]
        exact ⟨fun h => ⟨h.1, h.2.1, (hW i h.1).2 h.2.2⟩, fun h => ⟨h.1, h.2.1, (hW i h.1).1 h.2.2⟩⟩, fun x hx => ⟨(hmem _).2 (Or.inl (M.newsMem x hx).1), (M.newsMem x hx).2⟩⟩
    · have hns : newsStep S N u = N ++ [u] := newsStep_new hhas hN ix_isSome
      rw [hns]
      have hk : ix R.1 u = none := by
        apply ix_none
        intro k hkl
        rcases Nat.lt_or_ge k S.length with h | h
        · have h3 := M.unit k h
          unfold un at h3
          rw [h3]
          exact hno k h
        · obtain ⟨a, rfl⟩ : ∃ a, k = S.length + a := ⟨k - S.length, by omega⟩
          have ha : a < N.length := by rw [M.len] at hkl; omega
          rw [M.news a ha]
          intro e
          exact hN (by rw [← e]; exact getD_mem ha)
      rw [stepA_none hk]
      have hget : ∀ i, i < R.1.length → (R.1 ++ [(u, (1 : Int))])[i]?.getD e0 = R.1[i]?.getD e0 := fun i hi => by rw [List.getElem?_append_left hi]
      refine ⟨by simp [M.len]; omega, fun i hi => ?_, fun i hi hf h => ?_, fun i hi h => ?_, fun a ha => ?_, fun i => ?_, fun x hx => ?_⟩
      · have := M.unit i hi
        unfold un at this ⊢
        rw [hget i (by rw [M.len]; omega)]; exact this
      · rw [hget i (by rw [M.len]; omega)]; exact M.gain i hi hf ((hW i hi).1 h)
      · rw [hget i (by rw [M.len]; omega)]; exact M.keep i hi (fun h' => h ⟨h'.1, (hW i hi).2 h'.2⟩)
      · rw [List.length_append, List.length_singleton] at ha
        by_cases e : a = N.length
        · subst e
          rw [← M.len, List.getElem?_append_right (Nat.le_refl _), List.getElem?_append_right (Nat.le_refl _)]
          simp
        · rw [hget _ (by rw [M.len]; omega), M.news a (by omega), List.getElem?_append_left (by omega)]
      · rw [M.counted]
        exact ⟨fun h => ⟨h.1, h.2.1, (hW i h.1).2 h.2.2⟩, fun h => ⟨h.1, h.2.1, (hW i h.1).1 h.2.2⟩⟩
      · rcases List.mem_append.1 hx with h | h
        · exact ⟨(hmem _).2 (Or.inl (M.newsMem x h).1), (M.newsMem x h).2⟩
        · simp only [List.mem_singleton] at h
          subst h
          exact ⟨(hmem _).2 (Or.inr rfl), hhas⟩

theorem model_fold (inc : Int → Int) (S : List En) : ∀ (W V : List U) (R : List En × List Nat) (N : List U), Model inc S V R N → Model inc S (V ++ W) (W.foldl (stepA inc S.length) R) (W.foldl (newsStep S) N) := by
  intro W
  induction W with
  | nil => intro V R N M; simpa using M
  | cons u W ih =>
    intro V R N M
    have := ih (V ++ [u]) _ _ (model_step M u)
    simpa using this
/-- THE LAW. -/
theorem add_model (inc : Int → Int) (S : List En) (W : List U) : Model inc S W (runA inc S W) (newsOf S W) := by
  have := model_fold inc S W [] _ _ (model_start inc S)
  simpa [runA, newsOf] using this

theorem newsOf_snoc (S : List En) (W : List U) (k : Nat) (hk : k < W.length) (u : U) (hu : W[k]?.getD (ByteArray.empty, 0) = u) :
    newsOf S (W.take (k + 1)) = newsStep S (newsOf S (W.take k)) u := by
  have : W.take (k + 1) = W.take k ++ [u] := by
    rw [List.take_succ_eq_append_getElem hk]
    rw [List.getElem?_eq_getElem hk] at hu
    rw [← hu]; rfl
  unfold newsOf
  rw [this, List.foldl_append]
  rfl
theorem newsOf_length (S : List En) (W : List U) : (newsOf S W).length ≤ W.length := by
  have h1 := (add_model id S W).len
  have h2 := (runA_length id S W).2.1
  omega

end Go.Proofs.Qxb6600999a.Plain
