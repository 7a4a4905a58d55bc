import Derived.Test.Qxb6600999aAdd
import Derived.Test.Qxb6600999aAddLaw
import Derived.Test.Qxb6600999aRow2
namespace Go.Proofs.Qxb6600999a.W
open Go.RowKit Go.Proofs.Qxb6600999a.Plain
set_option linter.unusedVariables false

theorem min_nat (a b : Nat) (w : World) : Calls Try.prog 20 #[.int .i64 (a : Int), .int .i64 (b : Int)] w fun e w' => e = .returned (.int .i64 ((min a b : Nat) : Int)) ∧ w' = w := by
  have h := min_any (a : Int) (b : Int) w
  have e : (if (a : Int) < (b : Int) then (a : Int) else (b : Int)) = ((min a b : Nat) : Int) := by
    split <;> omega
  rw [e] at h
  exact h

/-- A quiet callee in a world that has drawn before. -/
theorem quiet_same2 {P : Program} {f : FuncId} {args : Array Value} {w : World} {a n : Nat} {v : Value}
    (h : Calls P f args (w.drewN (a + n)) fun e w' => e = .returned v ∧ w' = w.drewN (a + n)) : Calls P f args (w.drewN (a + n)) fun e w'' => e = .returned v ∧ ∃ m, w'' = w.drewN (a + m) :=
  h.mono fun _ _ ⟨he, hm⟩ => ⟨he, n, hm⟩
theorem cell_off {w : World} {a b : Addr} {v : Value} (h : a.block ≠ b.block) : (w.setCell a v).cell? b = w.cell? b := World.cell?_setCell_other _ _ _ _ (fun e => h (by rw [e]))

/-- A slice that came in and can be read: nil only where it is empty. -/
def NilOk (a : Option Addr) (n : Nat) : Prop := a = none → n = 0

/-- The entries and the writes that the lists spell. -/
def entsOf (sT : List ByteArray) (sB sC : List Int) (n : Nat) : List En := (List.range n).map (fun j => (uAt sT sB j, sC[j]?.getD 0))
def writesOf (wT : List ByteArray) (wB : List Int) (m : Nat) : List U := (List.range m).map (uAt wT wB)
theorem entsOf_length (sT : List ByteArray) (sB sC : List Int) (n : Nat) : (entsOf sT sB sC n).length = n := by simp [entsOf]
theorem writesOf_length (wT : List ByteArray) (wB : List Int) (m : Nat) : (writesOf wT wB m).length = m := by simp [writesOf]
theorem entsOf_get (sT : List ByteArray) (sB sC : List Int) (n j : Nat) (h : j < n) : (entsOf sT sB sC n)[j]?.getD e0 = (uAt sT sB j, sC[j]?.getD 0) := by simp [entsOf, h]
theorem writesOf_get (wT : List ByteArray) (wB : List Int) (m i : Nat) (h : i < m) : (writesOf wT wB m)[i]?.getD (ByteArray.empty, 0) = uAt wT wB i := by simp [writesOf, h]
theorem mem_writesOf {wT : List ByteArray} {wB : List Int} {m : Nat} {u : U} : u ∈ writesOf wT wB m ↔ amongB wT wB 0 m u = true := by
  rw [amongB_iff]
  simp only [writesOf, List.mem_map, List.mem_range]
  exact ⟨fun ⟨k, h1, h2⟩ => ⟨k, Nat.zero_le _, h1, h2⟩, fun ⟨k, _, h1, h2⟩ => ⟨k, h1, h2⟩⟩
theorem first_iff {sT : List ByteArray} {sB sC : List Int} {n j : Nat} (h : j < n) : firstAt (entsOf sT sB sC n) j ↔ amongB sT sB 0 j (uAt sT sB j) = false := by
  rw [Bool.eq_false_iff, ne_eq, amongB_iff]
  unfold firstAt un
  rw [entsOf_get _ _ _ _ _ h]
  constructor
  · rintro hf ⟨k, _, hk, he⟩
    have := hf k hk
    rw [entsOf_get _ _ _ _ _ (by omega)] at this
    exact this he
  · intro hf i hi he
    rw [entsOf_get _ _ _ _ _ (by omega)] at he
    exact hf ⟨i, Nat.zero_le _, hi, he⟩
theorem has_iff {sT : List ByteArray} {sB sC : List Int} {n : Nat} {u : U} : has (entsOf sT sB sC n) u ↔ amongB sT sB 0 n u = true := by
  rw [amongB_iff]
  unfold has un
  rw [entsOf_length]
  constructor
  · rintro ⟨k, hk, he⟩
    rw [entsOf_get _ _ _ _ _ hk] at he
    exact ⟨k, Nat.zero_le _, hk, he⟩
  · rintro ⟨k, _, hk, he⟩
    exact ⟨k, hk, by rw [entsOf_get _ _ _ _ _ hk]; exact he⟩

/-- What the law wants of the entry at j. -/
theorem want_plain {sT : List ByteArray} {sB sC : List Int} {wT : List ByteArray} {wB : List Int} {n m j : Nat} (h : j < n) (hr : amongB sT sB 0 j (uAt sT sB j) = true ∨ amongB wT wB 0 m (uAt sT sB j) = false) :
    ((runA inc1 (entsOf sT sB sC n) (writesOf wT wB m)).1[j]?.getD e0).2 = sC[j]?.getD 0 := by
  have M := add_model inc1 (entsOf sT sB sC n) (writesOf wT wB m)
  rw [M.keep j (by rw [entsOf_length]; exact h), entsOf_get _ _ _ _ _ h]
  rintro ⟨h1, h2⟩
  unfold un at h2
  rw [entsOf_get _ _ _ _ _ h] at h2
  rw [first_iff h] at h1
  rw [mem_writesOf] at h2
  rcases hr with hr | hr
  · rw [hr] at h1; cases h1
  · rw [hr] at h2; cases h2
theorem want_more {sT : List ByteArray} {sB sC : List Int} {wT : List ByteArray} {wB : List Int} {n m j : Nat} (h : j < n) (h1 : amongB sT sB 0 j (uAt sT sB j) = false) (h2 : amongB wT wB 0 m (uAt sT sB j) = true) :
    ((runA inc1 (entsOf sT sB sC n) (writesOf wT wB m)).1[j]?.getD e0).2 = inc1 (sC[j]?.getD 0) := by
  have M := add_model inc1 (entsOf sT sB sC n) (writesOf wT wB m)
  rw [M.gain j (by rw [entsOf_length]; exact h) ((first_iff h).2 h1) (by unfold un; rw [entsOf_get _ _ _ _ _ h]; exact mem_writesOf.2 h2), entsOf_get _ _ _ _ _ h]
end Go.Proofs.Qxb6600999a.W
