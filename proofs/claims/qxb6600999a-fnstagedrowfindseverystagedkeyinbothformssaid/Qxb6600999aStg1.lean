import Derived.Test.Qxb6600999aRow2
import Derived.Test.Qxb6600999aLaw8W
namespace Go.Proofs.Qxb6600999a.W
open Go.RowKit Go.Proofs.Qxb6600999a.Plain
set_option linter.unusedVariables false
attribute [local go_sem ↓] Go.wp_at_zero Go.wp_at_succ

theorem info5 : (Try.prog.info? 5).map (fun i => (i.zero, i.size, i.bytes)) = some (some (.int .u8 0), 1, 1) := by kernel_rfl
theorem info2 : (Try.prog.info? 2).map (fun i => (i.zero, i.size, i.bytes)) = some (some (.int .i64 0), 1, 8) := by kernel_rfl

/-- A slice of bytes that can be read. -/
def IsU8s (w : World) (a : Option Addr) (zs : List Int) : Prop :=
  0 < zs.length → ∃ b off, a = some ⟨b, off, none⟩ ∧ b < w.heap.size ∧ ∀ j, j < zs.length → w.cell? ⟨b, off + j, none⟩ = some (.int .u8 (zs[j]?.getD 0))
theorem IsU8s.keep {w w' : World} {a : Option Addr} {zs : List Int} (h : IsU8s w a zs) (hb : Below w.heap.size w w') : IsU8s w' a zs := by
  intro h0
  obtain ⟨b, off, ha, hlt, hc⟩ := h h0
  exact ⟨b, off, ha, Nat.lt_of_lt_of_le hlt hb.size, fun j hj => (hb.cell (p := ⟨b, off + j, none⟩) hlt).trans (hc j hj)⟩
def ClonedB (w : World) (zs : List Int) (e : Ending) (w' : World) : Prop := ∃ a' cap', e = .returned (.slice a' zs.length cap') ∧ IsU8s w' a' zs ∧ Below w.heap.size w w'

set_option maxHeartbeats 800000 in
theorem cloneB_any (ss : List Int) (a : Option Addr) (cap : Nat) (w : World) (hS : IsU8s w a ss) (hn : ss.length ≤ 100000) (hnil : a = none → ss.length = 0) :
    Calls Try.prog 22 #[.slice a ss.length cap] w (ClonedB w ss) := by
  obtain ⟨i0, hi, hz0, hz1, hz2⟩ := info_parts info5
  have H2 := hide hz2
  clear hz2
  have hnl := fun W => Lib.run_eql_slice_nil (P := Try.prog) W 26 5 a ss.length cap 0 0 Try.underlying26
  obtain ⟨n, hnn⟩ : ∃ n, n = ss.length := ⟨_, rfl⟩
  rw [← hnn] at hn hnl hnil ⊢
  have HN := hide hnn
  have HS := hide hS
  clear hnn hS
  cases a with
  | none =>
    obtain rfl : n = 0 := hnil rfl
    go_enter Try.func22, Try.ntmps22
    go_wp2
    go_ret
    exact ⟨none, 0, by rw [← HN.out]; rfl, fun h0 => by rw [← HN.out] at h0; omega, Below.refl _ _⟩
  | some x =>
    clear hnil
    go_enter Try.func22, Try.ntmps22
    go_wp2_with (at_make; refine wpList_make_full _ rfl _ _ 26 rfl w.heap.size 5 i0 (.int .u8 0) 1 Try.underlying26 hi hz0 hz1 _ _ _ _ n rfl rfl rfl rfl (by rw [H2.out]; omega) (by unfold maxLen; omega) (Nat.le_refl _) ?_)
    intro w1 hown hgrow
    have hrow := RowV.made hown
    have hb1 : Below w.heap.size w w1 := (Below.refl _ _).grown hgrow (Nat.le_refl _) (fun k h => by cases h)
    clear hown hgrow
    go_wp2
    go_loopw [4] (fun i wr => ∃ (k : Nat) (c : Nat → Value), i = .int .i64 k ∧ k ≤ n ∧ RowV wr 5 w.heap.size (n * 1) c ∧ Hid (∀ j, j < k → c j = .int .u8 (ss[j]?.getD 0)) ∧ Below w.heap.size w wr) (fun i _ => n - (intOf i).toNat)
    case atStart => exact ⟨0, _, rfl, Nat.zero_le _, hrow, hide (fun j hj => by omega), hb1⟩
    case round =>
      obtain ⟨k, c, rfl, hk, hR, HC, hb⟩ := hrel
      by_cases hkn : k < n
      · obtain ⟨b, off, hx, hg, hcs⟩ := HS.out (by rw [← HN.out]; omega)
        obtain rfl : x = ⟨b, off, none⟩ := by cases hx; rfl
        have c0 := (hb.cell (p := ⟨b, off + k, none⟩) hg).trans (hcs k (by rw [← HN.out]; exact hkn))
        obtain ⟨s, hs⟩ : ∃ s, s = ss[k]?.getD 0 := ⟨_, rfl⟩
        rw [← hs] at c0
        have HSS := hide hs
        have c1 := hR.cell k (by omega)
        have c2 := hR.free k
        clear hs hcs hx
        obtain ⟨cv, hcv⟩ : ∃ cv, cv = c k := ⟨_, rfl⟩
        rw [← hcv] at c1
        clear hcv
        go_wp2
        go_roundw
        case rel =>
          refine ⟨k + 1, _, by go_num, by omega, hR.set k (.int .u8 s), hide (fun j hj => ?_), hb.setCell (Nat.le_refl _) _⟩
          by_cases e : j = k
          · simp [e, HSS.out]
          · simp only [e, if_false]; exact HC.out j (by omega)
        case measure => simp [intOf]; omega
      · obtain rfl : n = k := by omega
        go_wp2
        go_ret
        refine ⟨some ⟨w.heap.size, 0, none⟩, n, by rw [← HN.out]; rfl, fun h0 => ⟨w.heap.size, 0, rfl, hR.lt, fun j hj => ?_⟩, hb⟩
        rw [Nat.zero_add, hR.cell j (by rw [← HN.out] at hj; omega), HC.out j (by rw [← HN.out] at hj; omega)]

set_option maxHeartbeats 800000 in
theorem cloneL_any (ss : List Int) (a : Option Addr) (cap : Nat) (w : World) (hS : IsInts w a ss) (hn : ss.length ≤ 100000) (hnil : a = none → ss.length = 0) :
    Calls Try.prog 23 #[.slice a ss.length cap] w (ClonedI w ss) := by
  obtain ⟨i0, hi, hz0, hz1, hz2⟩ := info_parts info2
  have H2 := hide hz2
  clear hz2
  have hnl := fun W => Lib.run_eql_slice_nil (P := Try.prog) W 34 2 a ss.length cap 0 0 Try.underlying34
  obtain ⟨n, hnn⟩ : ∃ n, n = ss.length := ⟨_, rfl⟩
  rw [← hnn] at hn hnl hnil ⊢
  have HN := hide hnn
  have HS := hide hS
  clear hnn hS
  cases a with
  | none =>
    obtain rfl : n = 0 := hnil rfl
    go_enter Try.func23, Try.ntmps23
    go_wp2
    go_ret
    exact ⟨none, 0, by rw [← HN.out]; rfl, fun h0 => by rw [← HN.out] at h0; omega, Below.refl _ _⟩
  | some x =>
    clear hnil
    go_enter Try.func23, Try.ntmps23
    go_wp2_with (at_make; refine wpList_make_full _ rfl _ _ 34 rfl w.heap.size 2 i0 (.int .i64 0) 1 Try.underlying34 hi hz0 hz1 _ _ _ _ n rfl rfl rfl rfl (by rw [H2.out]; omega) (by unfold maxLen; omega) (Nat.le_refl _) ?_)
    intro w1 hown hgrow
    have hrow := RowV.made hown
    have hb1 : Below w.heap.size w w1 := (Below.refl _ _).grown hgrow (Nat.le_refl _) (fun k h => by cases h)
    clear hown hgrow
    go_wp2
    go_loopw [4] (fun i wr => ∃ (k : Nat) (c : Nat → Value), i = .int .i64 k ∧ k ≤ n ∧ RowV wr 2 w.heap.size (n * 1) c ∧ Hid (∀ j, j < k → c j = .int .i64 (ss[j]?.getD 0)) ∧ Below w.heap.size w wr) (fun i _ => n - (intOf i).toNat)
    case atStart => exact ⟨0, _, rfl, Nat.zero_le _, hrow, hide (fun j hj => by omega), hb1⟩
    case round =>
      obtain ⟨k, c, rfl, hk, hR, HC, hb⟩ := hrel
      by_cases hkn : k < n
      · obtain ⟨b, off, hx, hg, hcs⟩ := HS.out (by rw [← HN.out]; omega)
        obtain rfl : x = ⟨b, off, none⟩ := by cases hx; rfl
        have c0 := (hb.cell (p := ⟨b, off + k, none⟩) hg).trans (hcs k (by rw [← HN.out]; exact hkn))
        obtain ⟨s, hs⟩ : ∃ s, s = ss[k]?.getD 0 := ⟨_, rfl⟩
        rw [← hs] at c0
        have HSS := hide hs
        have c1 := hR.cell k (by omega)
        have c2 := hR.free k
        clear hs hcs hx
        obtain ⟨cv, hcv⟩ : ∃ cv, cv = c k := ⟨_, rfl⟩
        rw [← hcv] at c1
        clear hcv
        go_wp2
        go_roundw
        case rel =>
          refine ⟨k + 1, _, by go_num, by omega, hR.set k (.int .i64 s), hide (fun j hj => ?_), hb.setCell (Nat.le_refl _) _⟩
          by_cases e : j = k
          · simp [e, HSS.out]
          · simp only [e, if_false]; exact HC.out j (by omega)
        case measure => simp [intOf]; omega
      · obtain rfl : n = k := by omega
        go_wp2
        go_ret
        refine ⟨some ⟨w.heap.size, 0, none⟩, n, by rw [← HN.out]; rfl, fun h0 => ⟨w.heap.size, 0, rfl, hR.lt, fun j hj => ?_⟩, hb⟩
        rw [Nat.zero_add, hR.cell j (by rw [← HN.out] at hj; omega), HC.out j (by rw [← HN.out] at hj; omega)]

set_option maxRecDepth 100000 in
set_option maxHeartbeats 1600000 in
theorem bytes29_any (s2 : List ByteArray) (n0 n1 : Nat) (a0 a1 a2 : Option Addr) (c0 c1 c2 : Nat) (w : World) (hS2 : IsStrs w a2 s2) (h2 : s2.length ≤ 9223372036854775807) (h0 : n0 ≤ 9223372036854775807) (h1 : n1 ≤ 9223372036854775807) :
    Calls Try.prog 29 #[.slice a0 n0 c0, .slice a1 n1 c1, .slice a2 s2.length c2] w (BoolAns w) := by
  obtain ⟨n2, hnn⟩ : ∃ n, n = s2.length := ⟨_, rfl⟩
  rw [← hnn] at h2 ⊢
  have HN0 := hide hnn
  have HS0 := hide hS2
  clear hnn hS2
  go_enter Try.func29, Try.ntmps29
  go_wp2
  all_goals first | (go_ret; exact BoolAns.mk _ _) | skip
  go_loop [7, 8] (fun t i => ∃ k q : Nat, i = .int .i64 k ∧ t = .int .i64 q ∧ k ≤ n2 ∧ q ≤ 1048576) (fun _ i => n2 - (intOf i).toNat)
  case atStart => exact ⟨0, n0 + n1 + n2, rfl, by go_num, Nat.zero_le _, by omega⟩
  case round =>
    obtain ⟨k, q, rfl, rfl, hk, hq⟩ := hrel
    by_cases hkn : k < n2
    · obtain ⟨b, off, rfl, hg, hcs⟩ := HS0.out (by rw [← HN0.out]; omega)
      have c0 := hcs k (by rw [← HN0.out]; exact hkn)
      generalize s2[k]?.getD ByteArray.empty = s at c0
      clear hcs
      by_cases hs : 1048576 < s.size
      · go_wp2
        go_ret
        exact BoolAns.mk _ _
      by_cases hs2 : 1048576 < q + s.size
      · go_wp2
        go_ret
        exact BoolAns.mk _ _
      go_wp2
      go_round
      case rel => exact ⟨k + 1, q + s.size, by go_num, by go_num, by omega, by omega⟩
      case measure => simp [intOf]; omega
    · go_wp2
      all_goals (go_ret; exact BoolAns.mk _ _)
end Go.Proofs.Qxb6600999a.W
