import Derived.Test.Qxb6600999aRow
namespace Go.Proofs.Qxb6600999a.W
open Go.RowKit Go.Proofs.Qxb6600999a.Plain
set_option linter.unusedVariables false

set_option maxHeartbeats 800000 in
theorem cloneI_any (zs : List Int) (a : Option Addr) (cap : Nat) (w : World) (hS : IsInts w a zs) (hn : zs.length ≤ 100000) (hnil : a = none → zs.length = 0) :
    Calls Try.prog 31 #[.slice a zs.length cap] w (ClonedI w zs) := by
  obtain ⟨i0, hi, hz0, hz1, hz2⟩ := info_parts info3
  have H2 := hide hz2
  clear hz2
  have hnl := fun W => Lib.run_eql_slice_nil (P := Try.prog) W 56 3 a zs.length cap 0 0 Try.underlying56
  obtain ⟨n, hnn⟩ : ∃ n, n = zs.length := ⟨_, rfl⟩
  rw [← hnn] at hn hnl hnil ⊢
  have HN := hide hnn
  have HS := hide hS
  clear hnn hS
  cases a with
  | none =>
    obtain rfl : n = 0 := hnil rfl
    go_enter Try.func31, Try.ntmps31
    go_wp2
    go_ret
    exact ⟨none, 0, by rw [← HN.out]; rfl, fun h0 => by rw [← HN.out] at h0; omega, Below.refl _ _⟩
  | some x =>
    clear hnil
    go_enter Try.func31, Try.ntmps31
    go_wp2_with (at_make; refine wpList_make_full _ rfl _ _ 56 rfl w.heap.size 3 i0 (.int .i64 0) 1 Try.underlying56 hi hz0 hz1 _ _ _ _ n rfl rfl rfl rfl (by rw [H2.out]; omega) (by unfold maxLen; omega) (Nat.le_refl _) ?_)
    intro w1 hown hgrow
    have hrow := RowV.made hown
    have hb1 : Below w.heap.size w w1 := (Below.refl _ _).grown hgrow (Nat.le_refl _) (fun k h => by cases h)
    clear hown hgrow
    go_wp2
    go_loopw [4] (fun i wr => ∃ (k : Nat) (c : Nat → Value), i = .int .i64 k ∧ k ≤ n ∧ RowV wr 3 w.heap.size (n * 1) c ∧ Hid (∀ j, j < k → c j = .int .i64 (zs[j]?.getD 0)) ∧ Below w.heap.size w wr) (fun i _ => n - (intOf i).toNat)
    case atStart => exact ⟨0, _, rfl, Nat.zero_le _, hrow, hide (fun j hj => by omega), hb1⟩
    case round =>
      obtain ⟨k, c, rfl, hk, hR, HC, hb⟩ := hrel
      by_cases hkn : k < n
      · obtain ⟨b, off, hx, hg, hcs⟩ := HS.out (by rw [← HN.out]; omega)
        obtain rfl : x = ⟨b, off, none⟩ := by cases hx; rfl
        have c0 := (hb.cell (p := ⟨b, off + k, none⟩) hg).trans (hcs k (by rw [← HN.out]; exact hkn))
        obtain ⟨s, hs⟩ : ∃ s, s = zs[k]?.getD 0 := ⟨_, rfl⟩
        rw [← hs] at c0
        have HSS := hide hs
        have c1 := hR.cell k (by omega)
        have c2 := hR.free k
        clear hs hcs hx
        obtain ⟨cv, hcv⟩ : ∃ cv, cv = c k := ⟨_, rfl⟩
        rw [← hcv] at c1
        clear hcv
        go_wp2
        go_roundw
        case rel =>
          refine ⟨k + 1, _, by go_num, by omega, hR.set k (.int .i64 s), hide (fun j hj => ?_), hb.setCell (Nat.le_refl _) _⟩
          by_cases e : j = k
          · simp [e, HSS.out]
          · simp only [e, if_false]; exact HC.out j (by omega)
        case measure => simp [intOf]; omega
      · obtain rfl : n = k := by omega
        go_wp2
        go_ret
        refine ⟨some ⟨w.heap.size, 0, none⟩, n, by rw [← HN.out]; rfl, fun h0 => ⟨w.heap.size, 0, rfl, hR.lt, fun j hj => ?_⟩, hb⟩
        rw [Nat.zero_add, hR.cell j (by rw [← HN.out] at hj; omega), HC.out j (by rw [← HN.out] at hj; omega)]

/-- Some count is answered; nothing has turned. -/
def CountAns (w : World) (e : Ending) (w' : World) : Prop := ∃ r : Nat, e = .returned (.int .i64 r) ∧ r ≤ 2097152 ∧ w' = w

set_option maxHeartbeats 800000 in
theorem strBytes_any (ss : List ByteArray) (a : Option Addr) (cap : Nat) (w : World) (hS : IsStrs w a ss) (hn : ss.length ≤ 4096) :
    Calls Try.prog 19 #[.slice a ss.length cap] w (CountAns w) := by
  obtain ⟨n, hnn⟩ : ∃ n, n = ss.length := ⟨_, rfl⟩
  rw [← hnn] at hn ⊢
  have HN := hide hnn
  have HS := hide hS
  clear hnn hS
  go_enter Try.func19, Try.ntmps19
  go_wp2
  go_loop [3, 4] (fun t i => ∃ k q : Nat, i = .int .i64 k ∧ t = .int .i64 q ∧ k ≤ n ∧ q ≤ 1048576) (fun _ i => n - (intOf i).toNat)
  case atStart => exact ⟨0, 16 * n, rfl, by go_num, Nat.zero_le _, by omega⟩
  case round =>
    obtain ⟨k, q, rfl, rfl, hk, hq⟩ := hrel
    by_cases hkn : k < n
    · obtain ⟨b, off, rfl, hg, hcs⟩ := HS.out (by rw [← HN.out]; omega)
      have c0 := hcs k (by rw [← HN.out]; exact hkn)
      generalize ss[k]?.getD ByteArray.empty = s at c0
      clear hcs
      by_cases hs : 1048576 < s.size
      · go_wp2
        go_ret
        exact ⟨2097152, rfl, by omega, rfl⟩
      by_cases hs2 : 1048576 < q + s.size
      · go_wp2
        go_ret
        exact ⟨2097152, rfl, by omega, rfl⟩
      go_wp2
      go_round
      case rel => exact ⟨k + 1, q + s.size, by go_num, by go_num, by omega, by omega⟩
      case measure => simp [intOf]; omega
    · go_wp2
      go_ret
      exact ⟨q, rfl, by omega, rfl⟩

set_option maxRecDepth 100000 in
set_option maxHeartbeats 1600000 in
theorem bytes30_any (s0 s3 : List ByteArray) (n1 n2 n4 : Nat) (a0 a1 a2 a3 a4 : Option Addr) (c0 c1 c2 c3 c4 : Nat) (w : World) (hS0 : IsStrs w a0 s0) (hS3 : IsStrs w a3 s3) (h0 : s0.length ≤ 9223372036854775807) (h1 : n1 ≤ 9223372036854775807) (h2 : n2 ≤ 9223372036854775807) (h3 : s3.length ≤ 9223372036854775807) (h4 : n4 ≤ 9223372036854775807) :
    Calls Try.prog 30 #[.slice a0 s0.length c0, .slice a1 n1 c1, .slice a2 n2 c2, .slice a3 s3.length c3, .slice a4 n4 c4] w (BoolAns w) := by
  obtain ⟨n0, hnn⟩ : ∃ n, n = s0.length := ⟨_, rfl⟩
  obtain ⟨n3, hnn3⟩ : ∃ n, n = s3.length := ⟨_, rfl⟩
  rw [← hnn] at h0 ⊢
  rw [← hnn3] at h3 ⊢
  have HN0 := hide hnn
  have HN3 := hide hnn3
  have HS0 := hide hS0
  have HS3 := hide hS3
  clear hnn hS0 hS3 hnn3
  go_enter Try.func30, Try.ntmps30
  go_wp2
  · go_ret; exact BoolAns.mk _ _
  go_loop [11, 12] (fun t i => ∃ k q : Nat, i = .int .i64 k ∧ t = .int .i64 q ∧ k ≤ n0 ∧ q ≤ 1048576) (fun _ i => n0 - (intOf i).toNat)
  case atStart => exact ⟨0, n0, rfl, by go_num, Nat.zero_le _, by omega⟩
  case round =>
    obtain ⟨k, q, rfl, rfl, hk, hq⟩ := hrel
    by_cases hkn : k < n0
    · obtain ⟨b, off, rfl, hg, hcs⟩ := HS0.out (by rw [← HN0.out]; omega)
      have c0 := hcs k (by rw [← HN0.out]; exact hkn)
      generalize s0[k]?.getD ByteArray.empty = s at c0
      clear hcs
      by_cases hs : 1048576 < s.size
      · go_wp2
        go_ret
        exact BoolAns.mk _ _
      by_cases hs2 : 1048576 < q + s.size
      · go_wp2
        go_ret
        exact BoolAns.mk _ _
      go_wp2
      go_round
      case rel => exact ⟨k + 1, q + s.size, by go_num, by go_num, by omega, by omega⟩
      case measure => simp [intOf]; omega
    · go_wp2
      all_goals first | (go_ret; exact BoolAns.mk _ _) | skip
      go_loop [11, 13] (fun t i => ∃ k q : Nat, i = .int .i64 k ∧ t = .int .i64 q ∧ k ≤ n3 ∧ q ≤ 1048576) (fun _ i => n3 - (intOf i).toNat)
      case atStart => exact ⟨0, q + n1 + n2 + n3, rfl, by go_num, Nat.zero_le _, by omega⟩
      case round =>
        obtain ⟨k2, q2, rfl, rfl, hk2, hq2⟩ := hrel
        by_cases hkn2 : k2 < n3
        · obtain ⟨b, off, rfl, hg, hcs⟩ := HS3.out (by rw [← HN3.out]; omega)
          have c0 := hcs k2 (by rw [← HN3.out]; exact hkn2)
          generalize s3[k2]?.getD ByteArray.empty = s at c0
          clear hcs
          by_cases hs : 1048576 < s.size
          · go_wp2
            go_ret
            exact BoolAns.mk _ _
          by_cases hs2 : 1048576 < q2 + s.size
          · go_wp2
            go_ret
            exact BoolAns.mk _ _
          go_wp2
          go_round
          case rel => exact ⟨k2 + 1, q2 + s.size, by go_num, by go_num, by omega, by omega⟩
          case measure => simp [intOf]; omega
        · go_wp2
          all_goals (go_ret; exact BoolAns.mk _ _)
end Go.Proofs.Qxb6600999a.W
