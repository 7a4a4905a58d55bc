import Derived.Test.Qxb6600999aLaw8W
import Derived.OpenShut
import Derived.SliceStrings
namespace Go.Proofs.Qxb6600999a.W
open Go.RowKit Go.Proofs.Qxb6600999a.Plain
set_option linter.unusedVariables false
attribute [local go_sem ↓] Go.wp_at_zero Go.wp_at_succ

/-- What came in as a slice of strings, of ints: the elements. -/
theorem strs_take {w : World} {x : Addr} {ss : List ByteArray} {l : Nat} (hl : l ≤ ss.length) (h : ∀ i, i < ss.length → w.cell? (x.add i) = some (.string (ss.getD i ByteArray.empty))) :
    ∃ ts : List ByteArray, ts.length = l ∧ IsStrs w (some x) ts ∧ NilOk (some x) ts.length := by
  refine ⟨ss.take l, by simp; omega, fun hp => ?_, fun h => by cases h⟩
  have hl' : (ss.take l).length = l := by simp; omega
  rw [hl'] at hp
  obtain ⟨b, off, spot⟩ := x
  have hspot : spot = none := by simpa [Addr.add] using World.cell?_spot (h 0 (by omega))
  subst hspot
  refine ⟨b, off, rfl, World.block_lt_of_cell? w _ (h 0 (by omega)), fun j hj => ?_⟩
  rw [hl'] at hj
  rw [← Go.WideShapes.add_plain, h j (by omega), List.getElem?_take, if_pos hj]
  simp
theorem ints_take {w : World} {x : Addr} {zs : List Int} {l : Nat} (hl : l ≤ zs.length) (h : ∀ i, i < zs.length → w.cell? (x.add i) = some (.int .i64 (zs.getD i 0))) :
    ∃ ts : List Int, ts.length = l ∧ IsInts w (some x) ts ∧ NilOk (some x) ts.length := by
  refine ⟨zs.take l, by simp; omega, fun hp => ?_, fun h => by cases h⟩
  have hl' : (zs.take l).length = l := by simp; omega
  rw [hl'] at hp
  obtain ⟨b, off, spot⟩ := x
  have hspot : spot = none := by simpa [Addr.add] using World.cell?_spot (h 0 (by omega))
  subst hspot
  refine ⟨b, off, rfl, World.block_lt_of_cell? w _ (h 0 (by omega)), fun j hj => ?_⟩
  rw [hl'] at hj
  rw [← Go.WideShapes.add_plain, h j (by omega), List.getElem?_take, if_pos hj]
  simp

set_option maxRecDepth 100000 in
set_option maxHeartbeats 3200000 in
/-- Some list longer than 4,096: true at once. -/
theorem law8_big (sT wT : List ByteArray) (n1 n2 n4 : Nat) (a0 a1 a2 a3 a4 : Option Addr) (c0 c1 c2 c3 c4 : Nat) (w : World) (hS0 : IsStrs w a0 sT) (hS3 : IsStrs w a3 wT)
    (h0 : sT.length ≤ 9223372036854775807) (h1 : n1 ≤ 9223372036854775807) (h2 : n2 ≤ 9223372036854775807) (h3 : wT.length ≤ 9223372036854775807) (h4 : n4 ≤ 9223372036854775807)
    (hbig : 4096 < sT.length ∨ 4096 < n1 ∨ 4096 < n2 ∨ 4096 < wT.length ∨ 4096 < n4) :
    Calls Try.prog 8 #[.slice a0 sT.length c0, .slice a1 n1 c1, .slice a2 n2 c2, .slice a3 wT.length c3, .slice a4 n4 c4] w fun e w' => e = .returned (.bool true) ∧ Below w.heap.size w w' := by
  have HBY := hide (bytes30_any sT wT n1 n2 n4 a0 a1 a2 a3 a4 c0 c1 c2 c3 c4 w hS0 hS3 h0 h1 h2 h3 h4)
  obtain ⟨n0, hn0⟩ : ∃ n, n = sT.length := ⟨_, rfl⟩
  obtain ⟨n3, hn3⟩ : ∃ n, n = wT.length := ⟨_, rfl⟩
  rw [← hn0] at HBY hbig h0 ⊢
  rw [← hn3] at HBY hbig h3 ⊢
  clear hn0 hn3 hS0 hS3
  go_enter Try.func8, Try.ntmps8
  go_wp2_with fail
  refine HBY.out.mono ?_
  rintro e w1 ⟨r, rfl, hww⟩
  obtain rfl : w = w1 := hww.symm
  cases r with
  | false =>
    go_wp2
    go_ret
    exact ⟨rfl, Below.refl _ _⟩
  | true =>
    by_cases q0 : 4096 < n0
    · have d0 : decide ((4096 : Int) < (n0 : Int)) = true := by simp; omega
      go_wp2
      go_ret
      exact ⟨rfl, Below.refl _ _⟩
    have d0 : decide ((4096 : Int) < (n0 : Int)) = false := by simp; omega
    by_cases q1 : 4096 < n1
    · have d1 : decide ((4096 : Int) < (n1 : Int)) = true := by simp; omega
      go_wp2
      go_ret
      exact ⟨rfl, Below.refl _ _⟩
    have d1 : decide ((4096 : Int) < (n1 : Int)) = false := by simp; omega
    by_cases q2 : 4096 < n2
    · have d2 : decide ((4096 : Int) < (n2 : Int)) = true := by simp; omega
      go_wp2
      go_ret
      exact ⟨rfl, Below.refl _ _⟩
    have d2 : decide ((4096 : Int) < (n2 : Int)) = false := by simp; omega
    by_cases q3 : 4096 < n3
    · have d3 : decide ((4096 : Int) < (n3 : Int)) = true := by simp; omega
      go_wp2
      go_ret
      exact ⟨rfl, Below.refl _ _⟩
    have d3 : decide ((4096 : Int) < (n3 : Int)) = false := by simp; omega
    have q4 : 4096 < n4 := by omega
    have d4 : decide ((4096 : Int) < (n4 : Int)) = true := by simp; omega
    clear hbig
    go_wp2
    go_ret
    exact ⟨rfl, Below.refl _ _⟩
end Go.Proofs.Qxb6600999a.W
