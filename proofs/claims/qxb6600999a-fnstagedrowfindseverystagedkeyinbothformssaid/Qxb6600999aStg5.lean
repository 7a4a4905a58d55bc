import Derived.Test.Qxb6600999aStg4
namespace Go.Proofs.Qxb6600999a.W
open Go.RowKit Go.Proofs.Qxb6600999a.Plain
set_option linter.unusedVariables false
attribute [local go_sem ↓] Go.wp_at_zero Go.wp_at_succ

/-- 'ZZMakeStaged': a new block whose first three cells are the keys, the rows and the places. -/
theorem make_any (a a' : Option Addr) (n c n' c' : Nat) (r : Option Nat) (w : World) :
    Calls Try.prog 37 #[.slice a n c, .slice a' n' c', .map r] w fun e w' => e = .returned (.pointer (some ⟨w.heap.size, 0, none⟩)) ∧ w.heap.size < w'.heap.size ∧
      w'.cell? ⟨w.heap.size, 0, none⟩ = some (.slice a n c) ∧ w'.cell? ⟨w.heap.size, 1, none⟩ = some (.slice a' n' c') ∧ w'.cell? ⟨w.heap.size, 2, none⟩ = some (.map r) ∧ Below w.heap.size w w' := by
  go_enter Try.func37, Try.ntmps37
  go_wp2
  go_ret
  exact ⟨rfl, by simp, by simp, by simp, by simp, (Below.refl _ _).alloc (Nat.le_refl _) _⟩

/-- The places as a map: each key leads to its own number. -/
def Places (w : World) (f : Nat → Key) (gM n j : Nat) : Prop := ∃ D : DataW Unit, w.ownsMap Try.prog 45 (plainElem Try.prog 3) gM j D ∧
    ∀ i, i < j → ∀ kl, keyOf Try.prog 45 (keyV (f i)) = some kl → D.atKey kl (.lit (.int .i64 0)) = .lit (.int .i64 i) ∧ Go.Maps.has D kl = true
theorem Places.keep {w w' : World} {f : Nat → Key} {gM n j : Nat} (h : Places w f gM n j) (hb : Below w.heap.size w w') : Places w' f gM n j := by
  obtain ⟨D, ⟨es, clock, h1, h2⟩, h3⟩ := h
  exact ⟨D, ⟨es, clock, (hb.block gM (Array.getElem?_eq_some_iff.1 h1).1).trans h1, h2⟩, h3⟩
theorem Places.start (w : World) (f : Nat → Key) (n : Nat) : Places (w.alloc (.map #[] 0)) f w.heap.size n 0 :=
  ⟨.map [], World.ownsMap_made _ _ _ _, fun i hi => by omega⟩
/-- One more key, unlike those before. -/
theorem Places.step {w w' : World} {f : Nat → Key} {gM n j : Nat} {D : DataW Unit} {kl : Lit} (hD : Go.Maps.IsMap D)
    (h : ∀ i, i < j → ∀ kl, keyOf Try.prog 45 (keyV (f i)) = some kl → D.atKey kl (.lit (.int .i64 0)) = .lit (.int .i64 i) ∧ Go.Maps.has D kl = true)
    (hk : keyOf Try.prog 45 (keyV (f j)) = some kl) (hd : ∀ i, i < j → f i ≠ f j)
    (ho : w'.ownsMap Try.prog 45 (plainElem Try.prog 3) gM (j + 1) (D.put kl (.lit (.int .i64 j)))) : Places w' f gM n (j + 1) := by
  refine ⟨_, ho, fun i hi l hl => ?_⟩
  by_cases e : i = j
  · subst e
    rw [hk] at hl
    cases hl
    exact ⟨Go.Maps.atKey_put_same hD (law45.key hk) _ _, Go.Maps.has_put_same hD (law45.key hk) _⟩
  · have hne : l ≠ kl := by
      intro e2
      subst e2
      have hv := law45.inj hl hk
      apply hd i (by omega)
      simp only [keyV, Value.agg.injEq] at hv
      have h3 := congrArg Array.toList hv
      simp at h3
      exact Prod.ext h3.1 (Prod.ext h3.2.1 h3.2.2)
    rw [Go.Maps.atKey_put_other hne, Go.Maps.has_put_other hne]
    exact h i (by omega) l hl
end Go.Proofs.Qxb6600999a.W
