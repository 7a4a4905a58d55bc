import Derived.Test.Qxb6600999aLaw8V
namespace Go.Proofs.Qxb6600999a.W
open Go.RowKit Go.Proofs.Qxb6600999a.Plain
set_option linter.unusedVariables false
attribute [local go_sem ↓] Go.wp_at_zero Go.wp_at_succ

set_option maxRecDepth 100000 in
set_option maxHeartbeats 25600000 in
theorem law8 (sT : List ByteArray) (sB sC : List Int) (wT : List ByteArray) (wB : List Int) (a0 a1 a2 a3 a4 : Option Addr) (c0 c1 c2 c3 c4 : Nat) (w : World)
    (hS0 : IsStrs w a0 sT) (hI1 : IsInts w a1 sB) (hI2 : IsInts w a2 sC) (hS3 : IsStrs w a3 wT) (hI4 : IsInts w a4 wB)
    (k0 : NilOk a0 sT.length) (k1 : NilOk a1 sB.length) (k2 : NilOk a2 sC.length) (k3 : NilOk a3 wT.length) (k4 : NilOk a4 wB.length)
    (l0 : sT.length ≤ 4096) (l1 : sB.length ≤ 4096) (l2 : sC.length ≤ 4096) (l3 : wT.length ≤ 4096) (l4 : wB.length ≤ 4096) :
    Calls Try.prog 8 #[.slice a0 sT.length c0, .slice a1 sB.length c1, .slice a2 sC.length c2, .slice a3 wT.length c3, .slice a4 wB.length c4] w fun e w' => e = .returned (.bool true) ∧ Below w.heap.size w w' := by
  have HBY := hide (bytes30_any sT wT sB.length sC.length wB.length a0 a1 a2 a3 a4 c0 c1 c2 c3 c4 w hS0 hS3 (by omega) (by omega) (by omega) (by omega) (by omega))
  have HB0 := hide (strBytes_any sT a0 c0 w hS0 l0)
  have HB3 := hide (strBytes_any wT a3 c3 w hS3 l3)
  have HC0 := hide (fun W h => cloneS_any sT a0 c0 W h (by omega) k0)
  have HC1 := hide (fun W h => cloneI_any sB a1 c1 W h (by omega) k1)
  have HC2 := hide (fun W h => cloneI_any sC a2 c2 W h (by omega) k2)
  have HC3 := hide (fun W h => cloneS_any wT a3 c3 W h (by omega) k3)
  have HC4 := hide (fun W h => cloneI_any wB a4 c4 W h (by omega) k4)
  obtain ⟨n0, hn0⟩ : ∃ n, n = sT.length := ⟨_, rfl⟩
  obtain ⟨n1, hn1⟩ : ∃ n, n = sB.length := ⟨_, rfl⟩
  obtain ⟨n2, hn2⟩ : ∃ n, n = sC.length := ⟨_, rfl⟩
  obtain ⟨n3, hn3⟩ : ∃ n, n = wT.length := ⟨_, rfl⟩
  obtain ⟨n4, hn4⟩ : ∃ n, n = wB.length := ⟨_, rfl⟩
  rw [← hn0] at l0 HBY HB0 HC0 ⊢
  rw [← hn1] at l1 HBY HC1 ⊢
  rw [← hn2] at l2 HBY HC2 ⊢
  rw [← hn3] at l3 HBY HB3 HC3 ⊢
  rw [← hn4] at l4 HBY HC4 ⊢
  have HN0 := hide hn0
  have HN1 := hide hn1
  have HN2 := hide hn2
  have HN3 := hide hn3
  have HN4 := hide hn4
  have J0 := hide hS0
  have J1 := hide hI1
  have J2 := hide hI2
  have J3 := hide hS3
  have J4 := hide hI4
  clear hn0 hn1 hn2 hn3 hn4 hS0 hI1 hI2 hS3 hI4 k0 k1 k2 k3 k4
  have q0 : decide ((4096 : Int) < (n0 : Int)) = false := by simp; omega
  have q1 : decide ((4096 : Int) < (n1 : Int)) = false := by simp; omega
  have q2 : decide ((4096 : Int) < (n2 : Int)) = false := by simp; omega
  have q3 : decide ((4096 : Int) < (n3 : Int)) = false := by simp; omega
  have q4 : decide ((4096 : Int) < (n4 : Int)) = false := by simp; omega
  go_enter Try.func8, Try.ntmps8
  go_wp2_with fail
  refine HBY.out.mono ?_
  rintro e w1 ⟨r, rfl, hww⟩
  obtain rfl : w = w1 := hww.symm
  cases r with
  | false =>
    go_wp2
    go_ret
    exact ⟨rfl, Below.refl _ _⟩
  | true =>
    go_wp2_with fail
    refine HB0.out.mono ?_
    rintro e w1 ⟨r1, rfl, hr1, hww⟩
    obtain rfl : w = w1 := hww.symm
    go_wp2_with fail
    refine HB3.out.mono ?_
    rintro e w1 ⟨r2, rfl, hr2, hww⟩
    obtain rfl : w = w1 := hww.symm
    clear hww
    by_cases hsum : 1048576 < r1 + r2 + 8 * (n1 + n2 + n4)
    · go_wp2
      go_ret
      exact ⟨rfl, Below.refl _ _⟩
    have hsm : decide ((1048576 : Int) < (r1 : Int) + (r2 : Int) + 8 * ((n1 : Int) + (n2 : Int) + (n4 : Int))) = false := by simp; omega
    go_wp2_with fail
    refine (HC0.out _ J0.out).mono ?_
    rintro e w1 ⟨b0, d0, rfl, hA0, hb1⟩
    rw [← HN0.out]
    have K0 := hide hA0
    have hbA := hb1
    clear hA0 hb1
    go_wp2_with fail
    refine (HC1.out _ (J1.out.keep hbA)).mono ?_
    rintro e w2 ⟨b1, d1, rfl, hA, hb⟩
    rw [← HN1.out]
    have K0' := hide (K0.out.keep hb)
    have K1 := hide hA
    have hbB := hbA.trans (hb.mono hbA.size)
    clear hA hb hbA K0
    go_wp2_with fail
    refine (HC2.out _ (J2.out.keep hbB)).mono ?_
    rintro e w3 ⟨b2, d2, rfl, hA, hb⟩
    rw [← HN2.out]
    have K0 := hide (K0'.out.keep hb)
    have K1' := hide (K1.out.keep hb)
    have K2 := hide hA
    have hbA := hbB.trans (hb.mono hbB.size)
    clear hA hb hbB K0' K1
    go_wp2_with fail
    refine (HC3.out _ (J3.out.keep hbA)).mono ?_
    rintro e w4 ⟨b3, d3, rfl, hA, hb⟩
    rw [← HN3.out]
    have K0' := hide (K0.out.keep hb)
    have K1 := hide (K1'.out.keep hb)
    have K2' := hide (K2.out.keep hb)
    have K3 := hide hA
    have hbB := hbA.trans (hb.mono hbA.size)
    clear hA hb hbA K0 K1' K2
    go_wp2_with fail
    refine (HC4.out _ (J4.out.keep hbB)).mono ?_
    rintro e w5 ⟨b4, d4, rfl, hA, hb⟩
    rw [← HN4.out]
    have K0 := hide (K0'.out.keep hb)
    have K1' := hide (K1.out.keep hb)
    have K2 := hide (K2'.out.keep hb)
    have K3' := hide (K3.out.keep hb)
    have K4 := hide hA
    have hbA := hbB.trans (hb.mono hbB.size)
    clear hA hb hbB K0' K1 K2' K3
    go_wp2_with fail
    refine (min_nat n1 n2 _).mono ?_
    rintro e w6 ⟨rfl, hww⟩
    obtain rfl : w5 = w6 := hww.symm
    go_wp2_with fail
    refine (min_nat n0 (min n1 n2) _).mono ?_
    rintro e w6 ⟨rfl, hww⟩
    obtain rfl : w5 = w6 := hww.symm
    obtain ⟨n, hn⟩ : ∃ n, n = min n0 (min n1 n2) := ⟨_, rfl⟩
    have hnn0 : n ≤ n0 := by omega
    have hnn1 : n ≤ n1 := by omega
    have hnn2 : n ≤ n2 := by omega
    rw [← hn]
    clear hn
    go_wp2_with fail
    refine (min_nat n3 n4 _).mono ?_
    rintro e w6 ⟨rfl, hww⟩
    obtain rfl : w5 = w6 := hww.symm
    obtain ⟨m, hm⟩ : ∃ m, m = min n3 n4 := ⟨_, rfl⟩
    have hmn3 : m ≤ n3 := by omega
    have hmn4 : m ≤ n4 := by omega
    rw [← hm]
    clear hm hww
    obtain ⟨i3, hi3, hz30, hz31, hz32⟩ := info_parts info3
    have H23 := hide hz32
    clear hz32
    go_wp2_with (at_make; refine wpList_make_full _ rfl _ _ 56 rfl w5.heap.size 3 i3 (.int .i64 0) 1 Try.underlying56 hi3 hz30 hz31 _ _ _ _ n rfl rfl rfl rfl (by rw [H23.out]; omega) (by unfold maxLen; omega) (Nat.le_refl _) ?_)
    intro w6 hown hgrow
    have hrow := RowV.made hown
    have hb6 : Below w5.heap.size w5 w6 := (Below.refl _ _).grown hgrow (Nat.le_refl _) (fun k h => by cases h)
    clear hown hgrow
    obtain ⟨gW, hgW⟩ : ∃ g, g = w5.heap.size := ⟨_, rfl⟩
    have HGW := hide hgW
    rw [← hgW] at hrow hb6 ⊢
    clear hgW
    go_wp2
    go_loopw [14] (fun i wr => ∃ (j : Nat) (c : Nat → Value), i = .int .i64 j ∧ j ≤ n ∧ RowV wr 3 gW (n * 1) c ∧ Hid (∀ i, i < j → c i = .int .i64 ((runA inc1 (entsOf sT sB sC n) (writesOf wT wB m)).1[i]?.getD e0).2) ∧ Below gW w5 wr) (fun i _ => n - (intOf i).toNat)
    case atStart => exact ⟨0, _, rfl, Nat.zero_le _, hrow, hide (fun i hi => by omega), hb6⟩
    case round =>
      obtain ⟨j, c, rfl, hj, hR, HC, hb⟩ := hrel
      by_cases hjn : j < n
      · obtain ⟨x0, o0, rfl, hx0, hs0⟩ := K0.out (by rw [← HN0.out]; omega)
        obtain ⟨x1, o1, rfl, hx1, hs1⟩ := K1'.out (by rw [← HN1.out]; omega)
        obtain ⟨x2, o2, rfl, hx2, hs2⟩ := K2.out (by rw [← HN2.out]; omega)
        rw [← HGW.out] at hx0 hx1 hx2
        have f0 := (hb.cell (p := ⟨x0, o0 + j, none⟩) hx0).trans (hs0 j (by rw [← HN0.out]; omega))
        have f1 := (hb.cell (p := ⟨x1, o1 + j, none⟩) hx1).trans (hs1 j (by rw [← HN1.out]; omega))
        have f2 := (hb.cell (p := ⟨x2, o2 + j, none⟩) hx2).trans (hs2 j (by rw [← HN2.out]; omega))
        have f3 := hR.cell j (by omega)
        have f4 := hR.free j
        obtain ⟨T, hT⟩ : ∃ T, T = sT[j]?.getD ByteArray.empty := ⟨_, rfl⟩
        obtain ⟨B, hB⟩ : ∃ B, B = sB[j]?.getD 0 := ⟨_, rfl⟩
        obtain ⟨ct, hct⟩ : ∃ c, c = sC[j]?.getD 0 := ⟨_, rfl⟩
        rw [← hT] at f0
        rw [← hB] at f1
        rw [← hct] at f2
        generalize c j = cj at f3
        have HU : Hid (uAt sT sB j = (T, B)) := by unfold uAt; rw [hT, hB]; rfl
        have HCT := hide hct
        clear hT hB hct hs0 hs1 hs2
        have hY : Below w5.heap.size w5 (wr.setCell ⟨gW, j, none⟩ (.int .i64 ct)) := by rw [← HGW.out]; exact hb.setCell (Nat.le_refl _) _
        have Y0 := hide (K0.out.keep hY)
        have Y1 := hide (K1'.out.keep hY)
        have Y3 := hide (K3'.out.keep hY)
        have Y4 := hide (K4.out.keep hY)
        have hjn0 : (j : Int) < (n0 : Int) := by omega
        have hjn1 : (j : Int) < (n1 : Int) := by omega
        have f0' : (wr.setCell ⟨gW, j, none⟩ (.int .i64 ct)).cell? ⟨x0, o0 + j, none⟩ = some (.string T) := (cell_off (by show gW ≠ x0; omega)).trans f0
        have f1' : (wr.setCell ⟨gW, j, none⟩ (.int .i64 ct)).cell? ⟨x1, o1 + j, none⟩ = some (.int .i64 B) := (cell_off (by show gW ≠ x1; omega)).trans f1
        have f2' : (wr.setCell ⟨gW, j, none⟩ (.int .i64 ct)).cell? ⟨x2, o2 + j, none⟩ = some (.int .i64 ct) := (cell_off (by show gW ≠ x2; omega)).trans f2
        have hR' := hR.set j (.int .i64 ct)
        have f3' := hR'.cell j (by omega)
        have f4' := hR'.free j
        simp only [if_true] at f3'
        have HAM1 : Hid (∀ Z, IsStrs Z (some ⟨x0, o0, none⟩) sT → IsInts Z (some ⟨x1, o1, none⟩) sB → Calls Try.prog 32 #[.slice (some ⟨x0, o0, none⟩) n0 d0, .slice (some ⟨x1, o1, none⟩) n1 d1, .int .i64 0, .int .i64 j, .string T, .int .i64 B] Z fun e w' => e = .returned (.bool (amongB sT sB 0 j (T, B))) ∧ w' = Z) := by
          intro Z h1 h2
          have h := among_any sT sB _ _ d0 d1 0 j T B Z h1 h2 (by rw [← HN0.out]; omega) (by rw [← HN1.out]; omega) (by rw [← HN0.out]; omega) (by rw [← HN1.out]; omega) (Nat.zero_le _)
          rw [← HN0.out, ← HN1.out] at h
          exact h
        have HAM2 : Hid (∀ Z, IsStrs Z b3 wT → IsInts Z b4 wB → Calls Try.prog 32 #[.slice b3 n3 d3, .slice b4 n4 d4, .int .i64 0, .int .i64 m, .string T, .int .i64 B] Z fun e w' => e = .returned (.bool (amongB wT wB 0 m (T, B))) ∧ w' = Z) := by
          intro Z h1 h2
          have h := among_any wT wB _ _ d3 d4 0 m T B Z h1 h2 (by rw [← HN3.out]; omega) (by rw [← HN4.out]; omega) (by rw [← HN3.out]; omega) (by rw [← HN4.out]; omega) (Nat.zero_le _)
          rw [← HN3.out, ← HN4.out] at h
          exact h
        cases hr1 : amongB sT sB 0 j (T, B) with
        | true =>
          rw [hr1] at HAM1
          have HR1 := hide hr1
          clear hr1
          go_wp2
          go_quiet ((go_at_call 32; refine Calls.quiet_of_same (HAM1.out _ ?_ ?_); exact Y0.out; exact Y1.out))
          go_wp2
          go_quiet (fail)
          go_wp2
          go_roundw
          case rel =>
            refine ⟨j + 1, _, by go_num, by omega, hR', hide (fun i hi => ?_), below_drewN (hb.setCell (Nat.le_refl _) _) _⟩
            by_cases e : i = j
            · subst e
              simp only [if_true]
              rw [want_plain hjn (Or.inl (by rw [HU.out]; exact HR1.out)), ← HCT.out]
            · simp only [e, if_false]; exact HC.out i (by omega)
          case measure => simp [intOf]; omega
        | false =>
          rw [hr1] at HAM1
          have HR1 := hide hr1
          clear hr1
          cases hr2 : amongB wT wB 0 m (T, B) with
          | false =>
            rw [hr2] at HAM2
            have HR2 := hide hr2
            clear hr2
            go_wp2
            go_quiet ((go_at_call 32; refine Calls.quiet_of_same (HAM1.out _ ?_ ?_); exact Y0.out; exact Y1.out))
            go_wp2
            go_quiet ((go_at_call 32; refine quiet_same2 (HAM2.out _ ?_ ?_); exact Y3.out; exact Y4.out))
            go_wp2
            go_roundw
            case rel =>
              refine ⟨j + 1, _, by go_num, by omega, hR', hide (fun i hi => ?_), below_drewN (hb.setCell (Nat.le_refl _) _) _⟩
              by_cases e : i = j
              · subst e
                simp only [if_true]
                rw [want_plain hjn (Or.inr (by rw [HU.out]; exact HR2.out)), ← HCT.out]
              · simp only [e, if_false]; exact HC.out i (by omega)
            case measure => simp [intOf]; omega
          | true =>
            rw [hr2] at HAM2
            have HR2 := hide hr2
            clear hr2
            go_wp2
            go_quiet ((go_at_call 32; refine Calls.quiet_of_same (HAM1.out _ ?_ ?_); exact Y0.out; exact Y1.out))
            go_wp2
            go_quiet ((go_at_call 32; refine quiet_same2 (HAM2.out _ ?_ ?_); exact Y3.out; exact Y4.out))
            go_wp2
            go_roundw
            case rel =>
              refine ⟨j + 1, _, by go_num, by omega, RowV.set (w := (wr.setCell ⟨gW, j, none⟩ (.int .i64 ct)).drewN _) hR' j _, hide (fun i hi => ?_), (below_drewN (hb.setCell (Nat.le_refl _) _) _).setCell (Nat.le_refl _) _⟩
              by_cases e : i = j
              · subst e
                simp only [if_true]
                rw [want_more hjn (by rw [HU.out]; exact HR1.out) (by rw [HU.out]; exact HR2.out), ← HCT.out]
                rfl
              · simp only [e, if_false]; exact HC.out i (by omega)
            case measure => simp [intOf]; omega
      · obtain rfl : n = j := by omega
        have hR7 := hR
        have hb7 : Below w5.heap.size w5 wr := by rw [← HGW.out]; exact hb
        have Q0 := hide (K0.out.keep hb7)
        have Q1 := hide (K1'.out.keep hb7)
        have Q2 := hide (K2.out.keep hb7)
        have Q3 := hide (K3'.out.keep hb7)
        have Q4 := hide (K4.out.keep hb7)
        have hbw : Below w.heap.size w wr := hbA.trans (hb7.mono hbA.size)
        have HBW := hide hbw
        have HRW := hide (hR.congr (d := fun i => .int .i64 ((runA inc1 (entsOf sT sB sC n) (writesOf wT wB m)).1[i]?.getD e0).2) (fun i hi => HC.out i (by omega)))
        clear K0 K1' K2 K3' K4 hbA hb hb7 hbw hR HGW hrow hb6 J0 J1 J2 J3 J4 HC0 HC1 HC2 HC3 HC4 HBY HB0 HB3 hR7
        obtain ⟨w7, hw7⟩ : ∃ w7, w7 = wr := ⟨_, rfl⟩
        rw [← hw7] at Q0 Q1 Q2 Q3 Q4 HBW HRW
        have hbs : Below w7.heap.size w7 wr := by rw [← hw7]; exact Below.refl _ _
        have hvs : ∀ e, wr.ownsRow w7.heap.size e 1 (.slice none 0 0) 0 [] := fun e => ⟨by simp, .inl ⟨rfl, rfl⟩⟩
        obtain ⟨i9, hi9, hz90, hz91, hz92⟩ := info_parts info9
        have H29 := hide hz92
        clear hz92 hw7
        go_wp2
        go_loopw [16, 17, 18] (fun vT vB i wr => ∃ (j : Nat) (N : List U), i = .int .i64 j ∧ j ≤ m ∧ Hid (N = newsOf (entsOf sT sB sC n) ((writesOf wT wB m).take j)) ∧ wr.ownsRow w7.heap.size 9 1 vT N.length (sCells N) ∧ wr.ownsRow w7.heap.size 3 1 vB N.length (iCells N) ∧ Below w7.heap.size w7 wr) (fun _ _ i _ => m - (intOf i).toNat)
        case atStart => exact ⟨0, [], rfl, Nat.zero_le _, hide (by simp [newsOf]), hvs 9, hvs 3, hbs⟩
        case round =>
          obtain ⟨j, N, rfl, hj, HN, hvT, hvB, hb⟩ := hrel
          by_cases hjm : j < m
          · obtain ⟨x3, o3, rfl, hx3, hs3⟩ := Q3.out (by rw [← HN3.out]; omega)
            obtain ⟨x4, o4, rfl, hx4, hs4⟩ := Q4.out (by rw [← HN4.out]; omega)
            have f0 := (hb.cell (p := ⟨x3, o3 + j, none⟩) hx3).trans (hs3 j (by rw [← HN3.out]; omega))
            have f1 := (hb.cell (p := ⟨x4, o4 + j, none⟩) hx4).trans (hs4 j (by rw [← HN4.out]; omega))
            obtain ⟨T, hT⟩ : ∃ T, T = wT[j]?.getD ByteArray.empty := ⟨_, rfl⟩
            obtain ⟨B, hB⟩ : ∃ B, B = wB[j]?.getD 0 := ⟨_, rfl⟩
            rw [← hT] at f0
            rw [← hB] at f1
            have HU : Hid (uAt wT wB j = (T, B)) := by unfold uAt; rw [hT, hB]; rfl
            clear hT hB hs3 hs4
            have HUW : Hid ((writesOf wT wB m)[j]?.getD (ByteArray.empty, 0) = (T, B)) := by
              show _ = _
              rw [writesOf_get _ _ _ _ hjm]; exact HU.out
            have HJW : Hid (j < (writesOf wT wB m).length) := by show j < _; rw [writesOf_length]; exact hjm
            have hNj : N.length ≤ j := news_len HN.out
            obtain ⟨aT, capT, rfl, hIT⟩ := strs_own hvT
            obtain ⟨aB, capB, rfl, hIB⟩ := ints_own hvB
            have hjn3 : (j : Int) < (n3 : Int) := by omega
            have hjn4 : (j : Int) < (n4 : Int) := by omega
            have Y0 := hide (Q0.out.keep hb)
            have Y1 := hide (Q1.out.keep hb)
            have YT := hide hIT
            have YB := hide hIB
            clear hIT hIB
            have HAM1 : Hid (∀ Z, IsStrs Z b0 sT → IsInts Z b1 sB → Calls Try.prog 32 #[.slice b0 n0 d0, .slice b1 n1 d1, .int .i64 0, .int .i64 n, .string T, .int .i64 B] Z fun e w' => e = .returned (.bool (amongB sT sB 0 n (T, B))) ∧ w' = Z) := by
              intro Z h1 h2
              have h := among_any sT sB _ _ d0 d1 0 n T B Z h1 h2 (by rw [← HN0.out]; omega) (by rw [← HN1.out]; omega) (by rw [← HN0.out]; omega) (by rw [← HN1.out]; omega) (Nat.zero_le _)
              rw [← HN0.out, ← HN1.out] at h
              exact h
            have HAM2 : Hid (∀ Z, IsStrs Z aT (N.map (·.1)) → IsInts Z aB (N.map (·.2)) → Calls Try.prog 32 #[.slice aT N.length capT, .slice aB N.length capB, .int .i64 0, .int .i64 N.length, .string T, .int .i64 B] Z fun e w' => e = .returned (.bool (amongB (N.map (·.1)) (N.map (·.2)) 0 N.length (T, B))) ∧ w' = Z) := by
              intro Z h1 h2
              have h := among_any (N.map (·.1)) (N.map (·.2)) aT aB capT capB 0 N.length T B Z h1 h2 (by rw [List.length_map]; omega) (by rw [List.length_map]; omega) (by rw [List.length_map]; omega) (by rw [List.length_map]; omega) (Nat.zero_le _)
              rw [List.length_map, List.length_map] at h
              exact h
            cases hr1 : amongB sT sB 0 n (T, B) with
            | true =>
              rw [hr1] at HAM1
              have HR1 := hide hr1
              clear hr1
              go_wp2
              go_quiet ((go_at_call 32; refine Calls.quiet_of_same (HAM1.out _ ?_ ?_); exact Y0.out; exact Y1.out))
              go_wp2
              go_roundw
              case rel => exact ⟨j + 1, N, by go_num, by omega, hide (news_stay HJW.out HUW.out HN.out (Or.inl (has_iff.2 HR1.out))), by exact hvT, by exact hvB, below_drewN hb _⟩
              case measure => simp [intOf]; omega
            | false =>
              rw [hr1] at HAM1
              have HR1 := hide hr1
              clear hr1
              cases hr2 : amongB (N.map (·.1)) (N.map (·.2)) 0 N.length (T, B) with
              | true =>
                rw [hr2] at HAM2
                have HR2 := hide hr2
                clear hr2
                go_wp2
                go_quiet ((go_at_call 32; refine Calls.quiet_of_same (HAM1.out _ ?_ ?_); exact Y0.out; exact Y1.out))
                go_wp2
                go_quiet ((go_at_call 32; refine quiet_same2 (HAM2.out _ ?_ ?_); exact YT.out; exact YB.out))
                go_wp2
                go_roundw
                case rel => exact ⟨j + 1, N, by go_num, by omega, hide (news_stay HJW.out HUW.out HN.out (Or.inr (amongN.1 HR2.out))), by exact hvT, by exact hvB, below_drewN hb _⟩
                case measure => simp [intOf]; omega
              | false =>
                rw [hr2] at HAM2
                have HR2 := hide hr2
                clear hr2
                go_wp2
                go_quiet ((go_at_call 32; refine Calls.quiet_of_same (HAM1.out _ ?_ ?_); exact Y0.out; exact Y1.out))
                go_wp2
                go_quiet ((go_at_call 32; refine quiet_same2 (HAM2.out _ ?_ ?_); exact YT.out; exact YB.out))
                go_wp2_with (at_builtin; refine wpList_append_own _ rfl (.tmp 175) (.tmp 180) 35 rfl w7.heap.size 9 i9 (.string ByteArray.empty) 1 16 Try.underlying35 hi9 hz90 hz91 H29.out rfl (by decide) _ _ _ rfl (World.ownsRow.alloc (w := wr.drewN _) (by exact hvT) _) _ 1 1 [.string T] rfl rfl (by exact cell_one_new (wr.drewN _) _ _) (by simp [Value.oneCell']) (by unfold maxLen; omega) (by omega) (by have := hb.size; simp; omega) ?_)
                intro vT' w1 hown1 hgrow1 hnil1
                have hsz7 := hb.size
                have hb1 : Below w7.heap.size w7 w1 := ((below_drewN hb _).alloc hsz7 _).grown hgrow1 (by simp; omega) (fun k h => (hvT.lt k h).1)
                have hvB1 : w1.ownsRow w7.heap.size 3 1 (.slice aB N.length capB) N.length (iCells N) := (World.ownsRow.alloc (w := wr.drewN _) (by exact hvB) _).kept hgrow1 (apartSI hvT hvB)
                have f1' : w1.cell? ⟨x4, o4 + j, none⟩ = some (.int .i64 B) := (hb1.cell (p := ⟨x4, o4 + j, none⟩) hx4).trans ((hb.cell (p := ⟨x4, o4 + j, none⟩) hx4).symm.trans f1)
                have hsz1 := hb1.size
                clear hnil1
                go_wp2_with (at_builtin; refine wpList_append_own _ rfl (.tmp 182) (.tmp 187) 56 rfl w7.heap.size 3 i3 (.int .i64 0) 1 8 Try.underlying56 hi3 hz30 hz31 H23.out rfl (by decide) _ _ _ rfl (hvB1.alloc _) _ 1 1 [.int .i64 B] rfl rfl (cell_one_new w1 _ _) (by simp [Value.oneCell']) (by unfold maxLen; omega) (by omega) (by simp; omega) ?_)
                intro vB' w2 hown2 hgrow2 hnil2
                have hb2 : Below w7.heap.size w7 w2 := (hb1.alloc hsz1 _).grown hgrow2 (by simp; omega) (fun k h => (hvB.lt k h).1)
                have hfin := step_pair (X := wr.drewN _) (by exact hvT) (by exact hvB) hown1 hgrow1 hown2 hgrow2
                clear hown1 hgrow1 hown2 hgrow2 hnil2 hvB1 f1' f0 f1 hb1 hsz1
                go_wp2
                go_roundw
                case rel => exact ⟨j + 1, N ++ [(T, B)], by go_num, by omega, hide (news_new HJW.out HUW.out HN.out (fun h => by have h1 := has_iff.1 h; rw [HR1.out] at h1; cases h1) (fun h => by have h1 := amongN.2 h; rw [HR2.out] at h1; cases h1)), hfin.1, hfin.2, hb2⟩
                case measure => simp [intOf]; omega
          · obtain rfl : m = j := by omega
            have HNW : Hid (N = newsOf (entsOf sT sB sC n) (writesOf wT wB m)) := by
              have h := HN.out
              rw [List.take_of_length_le (by rw [writesOf_length]; omega)] at h
              exact h
            have hNm : N.length ≤ m := news_len HN.out
            obtain ⟨w8, hw8⟩ : ∃ w8, w8 = wr := ⟨_, rfl⟩
            have Z0 := hide (Q0.out.keep hb)
            have Z1 := hide (Q1.out.keep hb)
            have Z2 := hide (Q2.out.keep hb)
            have Z3 := hide (Q3.out.keep hb)
            have Z4 := hide (Q4.out.keep hb)
            have HRW8 := hide (HRW.out.keep hb)
            have HBW8 := hide (HBW.out.trans (hb.mono HBW.out.size))
            obtain ⟨aT, capT, rfl, hIT⟩ := strs_own hvT
            obtain ⟨aB, capB, rfl, hIB⟩ := ints_own hvB
            have ZT := hide hIT
            have ZB := hide hIB
            obtain ⟨i65, hi65, hz650, hz651, hz652⟩ := info_parts info65
            have H265 := hide hz652
            rw [← hw8]
            rw [← hw8] at Z0 Z1 Z2 Z3 Z4 HRW8 HBW8 ZT ZB
            clear hz652 Q0 Q1 Q2 Q3 Q4 HRW HBW HN hvT hvB hb hw8 hIT hIB hbs hvs hz90 hz91 H29 hi9
            go_wp2_with (at_make; refine wpList_make_full _ rfl _ _ 61 rfl w8.heap.size 65 i65 _ 3 Try.underlying61 hi65 hz650 hz651 _ _ _ _ n rfl rfl rfl rfl (by rw [H265.out]; omega) (by unfold maxLen; omega) (Nat.le_refl _) ?_)
            intro w9 hown hgrow
            have hrow := RowV.made hown
            have hb9 : Below w8.heap.size w8 w9 := (Below.refl _ _).grown hgrow (Nat.le_refl _) (fun k h => by cases h)
            clear hown hgrow
            go_wp2
            have hgp : w8.heap.size < w9.heap.size := hrow.lt
            have hbp : ∀ v t, Below w8.heap.size w8 (w9.alloc (.cells #[v] t)) := fun v t => hb9.alloc hb9.size _
            have hrp : ∀ v t, RowV (w9.alloc (.cells #[v] t)) 65 w8.heap.size (n * 3) _ := fun v t => hrow.keep ((Below.refl _ _).alloc (Nat.le_refl _) _)
            have hpp : ∀ v, (w9.alloc (.cells #[v] 61)).heap[w9.heap.size]? = some (.cells #[v] 61 (0, 0)) := fun v => heap_alloc_new _ _
            clear hrow hb9
            obtain ⟨gS, hgS⟩ : ∃ g, g = w8.heap.size := ⟨_, rfl⟩
            have HGS := hide hgS
            rw [← hgS] at hgp hbp hrp ⊢
            clear hgS
            generalize w9.heap.size = p at *
            go_loopw [20] (fun i wr => ∃ (j : Nat) (c : Nat → Value), i = .int .i64 j ∧ j ≤ n ∧ RowV wr 65 gS (n * 3) c ∧ Hid (∀ i, i < j → c (i * 3) = .string (uAt sT sB i).1 ∧ c (i * 3 + 1) = .int .i64 (uAt sT sB i).2 ∧ c (i * 3 + 2) = .int .i64 (sC[i]?.getD 0)) ∧ wr.heap[p]? = some (.cells #[.slice (some ⟨gS, 0, none⟩) n n] 61 (0, 0)) ∧ Below gS w8 wr) (fun i _ => n - (intOf i).toNat)
            case atStart => exact ⟨0, _, rfl, Nat.zero_le _, hrp _ _, hide (fun i hi => by omega), hpp _, hbp _ _⟩
            case round =>
              obtain ⟨j, c, rfl, hj, hR, HC, hP, hb⟩ := hrel
              by_cases hjn : j < n
              · obtain ⟨x0, o0, rfl, hx0, hs0⟩ := Z0.out (by rw [← HN0.out]; omega)
                obtain ⟨x1, o1, rfl, hx1, hs1⟩ := Z1.out (by rw [← HN1.out]; omega)
                obtain ⟨x2, o2, rfl, hx2, hs2⟩ := Z2.out (by rw [← HN2.out]; omega)
                rw [← HGS.out] at hx0 hx1 hx2
                have f0 := (hb.cell (p := ⟨x0, o0 + j, none⟩) hx0).trans (hs0 j (by rw [← HN0.out]; omega))
                have f1 := (hb.cell (p := ⟨x1, o1 + j, none⟩) hx1).trans (hs1 j (by rw [← HN1.out]; omega))
                have f2 := (hb.cell (p := ⟨x2, o2 + j, none⟩) hx2).trans (hs2 j (by rw [← HN2.out]; omega))
                have f3 := hR.cell (j * 3) (by omega)
                have f4 := hR.cell (j * 3 + 1) (by omega)
                have f5 := hR.cell (j * 3 + 2) (by omega)
                have f6 := hR.free (j * 3)
                have f7 := hR.free (j * 3 + 1)
                have f8 := hR.free (j * 3 + 2)
                have f9 : wr.cell? ⟨p, 0, none⟩ = some (.slice (some ⟨gS, 0, none⟩) n n) := by rw [cell_of_row wr p 0 _ 61 (0, 0) hP]; rfl
                obtain ⟨T, hT⟩ : ∃ T, T = sT[j]?.getD ByteArray.empty := ⟨_, rfl⟩
                obtain ⟨B, hB⟩ : ∃ B, B = sB[j]?.getD 0 := ⟨_, rfl⟩
                obtain ⟨ct, hct⟩ : ∃ c, c = sC[j]?.getD 0 := ⟨_, rfl⟩
                rw [← hT] at f0
                rw [← hB] at f1
                rw [← hct] at f2
                have HU : Hid (uAt sT sB j = (T, B)) := by unfold uAt; rw [hT, hB]; rfl
                have HCT := hide hct
                have HP := hide hP
                generalize c (j * 3) = u0 at f3
                generalize c (j * 3 + 1) = u1 at f4
                generalize c (j * 3 + 2) = u2 at f5
                clear hT hB hct hs0 hs1 hs2 hP
                have hjw : IntKind.i64.wrap (j : Int) = (j : Int) := by rw [IntKind.wrap_i64]; omega
                have hj0 : (0 : Int) ≤ (j : Int) := by omega
                have hjn0 : (j : Int) < (n0 : Int) := by omega
                have hjn1 : (j : Int) < (n1 : Int) := by omega
                have hjn2 : (j : Int) < (n2 : Int) := by omega
                have hjnn : (j : Int) < (n : Int) := by omega
                have e0 : ¬ gS = x0 := by omega
                have e1 : ¬ gS = x1 := by omega
                have e2 : ¬ gS = x2 := by omega
                have e3 : ¬ gS = p := by omega
                have e0' : ¬ x0 = gS := by omega
                have e1' : ¬ x1 = gS := by omega
                have e2' : ¬ x2 = gS := by omega
                have e3' : ¬ p = gS := by omega
                go_wp2
                go_region_held3 (fun w' => w'.cell? ⟨p, 0, none⟩ = some (.slice (some ⟨gS, 0, none⟩) n n) ∧ w'.cell? ⟨x0, o0 + j, none⟩ = some (.string T) ∧ w'.cell? ⟨x1, o1 + j, none⟩ = some (.int .i64 B) ∧ w'.cell? ⟨x2, o2 + j, none⟩ = some (.int .i64 ct) ∧ w'.frozen? ⟨gS, j * 3, none⟩ = false ∧ w'.frozen? ⟨gS, j * 3 + 1, none⟩ = false ∧ w'.frozen? ⟨gS, j * 3 + 2, none⟩ = false) (go_keep) (fail)
                go_wp2
                go_roundw
                case rel =>
                  refine ⟨j + 1, _, by go_num, by omega, ((hR.set (j * 3) (.string T)).set (j * 3 + 1) (.int .i64 B)).set (j * 3 + 2) (.int .i64 ct), hide (fun i hi => ?_), ?_, (((hb.setCell (Nat.le_refl _) _).setCell (Nat.le_refl _) _).setCell (Nat.le_refl _) _).drew⟩
                  · have hx := HU.out
                    have hy := HCT.out
                    by_cases e : i = j
                    · subst e
                      rw [hx, ← hy]
                      refine ⟨?_, ?_, ?_⟩ <;> simp
                    · have h := HC.out i (by omega)
                      refine ⟨?_, ?_, ?_⟩
                      · rw [← h.1, if_neg (by omega), if_neg (by omega), if_neg (by omega)]
                      · rw [← h.2.1, if_neg (by omega), if_neg (by omega), if_neg (by omega)]
                      · rw [← h.2.2, if_neg (by omega), if_neg (by omega), if_neg (by omega)]
                  · exact ((heap_setCell_other _ _ p _ e3').trans (heap_setCell_other _ _ p _ e3')).trans ((heap_setCell_other _ _ p _ e3').trans HP.out)
                case measure => simp [intOf]; omega
              · obtain rfl : n = j := by omega
                have hownS := RowV.owns (B := 0) (size := 3) (xs := entCells (entsOf sT sB sC n)) hR (Nat.zero_le _) (by unfold maxLen; omega) (by rw [entCells_length, entsOf_length]) (ents_row HC.out)
                have HOS := hide hownS
                have HP := hide hP
                have hb8 : Below w8.heap.size w8 wr := by rw [← HGS.out]; exact hb
                have Y0 := hide (Z0.out.keep hb8)
                have Y1 := hide (Z1.out.keep hb8)
                have Y2 := hide (Z2.out.keep hb8)
                have Y3 := hide (Z3.out.keep hb8)
                have Y4 := hide (Z4.out.keep hb8)
                have YT := hide (ZT.out.keep hb8)
                have YB := hide (ZB.out.keep hb8)
                have YRW := hide (HRW8.out.keep hb8)
                have YBW := hide (HBW8.out.trans (hb8.mono HBW8.out.size))
                have HB8 := hide hb8
                have hgW : gW < gS := by rw [HGS.out]; exact HRW8.out.lt
                have hgSr : gS < wr.heap.size := hR.lt
                have hpr : p < wr.heap.size := (Array.getElem?_eq_some_iff.1 hP).1
                have hSz8 : w.heap.size ≤ gS := by rw [HGS.out]; exact HBW8.out.size
                -- what lies under gS lies in w8
                have HLT : Hid (gS = w8.heap.size) := HGS
                obtain ⟨w10, hw10⟩ : ∃ w10, w10 = wr := ⟨_, rfl⟩
                rw [← hw10]
                rw [← hw10] at HB8 HOS HP Y0 Y1 Y2 Y3 Y4 YT YB YRW YBW hgSr hpr
                obtain ⟨i68, hi68, hz680, hz681, hz682⟩ := info_parts info68
                have H268 := hide hz682
                clear hz682 hw10 hb8 hb hR hP hownS hrp hbp hpp HC
                go_wp2_with (at_make; refine wpList_make_full _ rfl _ _ 66 rfl w10.heap.size 68 i68 _ 9 Try.underlying66 hi68 hz680 hz681 _ _ _ _ m rfl rfl rfl rfl (by rw [H268.out]; omega) (by unfold maxLen; omega) (Nat.le_refl _) ?_)
                intro w11 hown hgrow
                have hrow := RowV.made hown
                have hb11 : Below w10.heap.size w10 w11 := (Below.refl _ _).grown hgrow (Nat.le_refl _) (fun k h => by cases h)
                clear hown hgrow
                go_wp2
                go_loopw [22] (fun i wr => ∃ (j : Nat) (c : Nat → Value), i = .int .i64 j ∧ j ≤ m ∧ RowV wr 68 w10.heap.size (m * 9) c ∧ Hid (∀ i, i < j → ∀ k, k < 9 → c (i * 9 + k) = wrCell (uAt wT wB i) k) ∧ Below w10.heap.size w10 wr) (fun i _ => m - (intOf i).toNat)
                case atStart => exact ⟨0, _, rfl, Nat.zero_le _, hrow, hide (fun i hi => by omega), hb11⟩
                case round =>
                  obtain ⟨j, c, rfl, hj, hR, HC, hb⟩ := hrel
                  by_cases hjm : j < m
                  · obtain ⟨gQ, hgQ⟩ : ∃ g, g = w10.heap.size := ⟨_, rfl⟩
                    obtain ⟨x3, o3, rfl, hx3, hs3⟩ := Y3.out (by rw [← HN3.out]; omega)
                    obtain ⟨x4, o4, rfl, hx4, hs4⟩ := Y4.out (by rw [← HN4.out]; omega)
                    have f0 := (hb.cell (p := ⟨x3, o3 + j, none⟩) hx3).trans (hs3 j (by rw [← HN3.out]; omega))
                    have f1 := (hb.cell (p := ⟨x4, o4 + j, none⟩) hx4).trans (hs4 j (by rw [← HN4.out]; omega))
                    rw [← hgQ] at hx3 hx4 hR hb ⊢
                    have HGQ := hide hgQ
                    have f2 := hR.free
                    obtain ⟨v0, g0⟩ : ∃ v, wr.cell? ⟨gQ, j * 9, none⟩ = some v := ⟨_, hR.cell _ (by omega)⟩
                    obtain ⟨v1, g1⟩ : ∃ v, wr.cell? ⟨gQ, j * 9 + 1, none⟩ = some v := ⟨_, hR.cell _ (by omega)⟩
                    obtain ⟨v2, g2⟩ : ∃ v, wr.cell? ⟨gQ, j * 9 + 2, none⟩ = some v := ⟨_, hR.cell _ (by omega)⟩
                    obtain ⟨v3, g3⟩ : ∃ v, wr.cell? ⟨gQ, j * 9 + 3, none⟩ = some v := ⟨_, hR.cell _ (by omega)⟩
                    obtain ⟨v4, g4⟩ : ∃ v, wr.cell? ⟨gQ, j * 9 + 4, none⟩ = some v := ⟨_, hR.cell _ (by omega)⟩
                    obtain ⟨v5, g5⟩ : ∃ v, wr.cell? ⟨gQ, j * 9 + 5, none⟩ = some v := ⟨_, hR.cell _ (by omega)⟩
                    obtain ⟨v6, g6⟩ : ∃ v, wr.cell? ⟨gQ, j * 9 + 6, none⟩ = some v := ⟨_, hR.cell _ (by omega)⟩
                    obtain ⟨v7, g7⟩ : ∃ v, wr.cell? ⟨gQ, j * 9 + 7, none⟩ = some v := ⟨_, hR.cell _ (by omega)⟩
                    obtain ⟨v8, g8⟩ : ∃ v, wr.cell? ⟨gQ, j * 9 + 8, none⟩ = some v := ⟨_, hR.cell _ (by omega)⟩
                    have k0 := f2 (j * 9)
                    have k1 := f2 (j * 9 + 1)
                    have k2 := f2 (j * 9 + 2)
                    have k3 := f2 (j * 9 + 3)
                    have k4 := f2 (j * 9 + 4)
                    have k5 := f2 (j * 9 + 5)
                    have k6 := f2 (j * 9 + 6)
                    have k7 := f2 (j * 9 + 7)
                    have k8 := f2 (j * 9 + 8)
                    obtain ⟨T, hT⟩ : ∃ T, T = wT[j]?.getD ByteArray.empty := ⟨_, rfl⟩
                    obtain ⟨B, hB⟩ : ∃ B, B = wB[j]?.getD 0 := ⟨_, rfl⟩
                    rw [← hT] at f0
                    rw [← hB] at f1
                    have HU : Hid (uAt wT wB j = (T, B)) := by unfold uAt; rw [hT, hB]; rfl
                    clear hT hB hs3 hs4 f2 hgQ
                    have hjw : IntKind.i64.wrap (j : Int) = (j : Int) := by rw [IntKind.wrap_i64]; omega
                    have hj0 : (0 : Int) ≤ (j : Int) := by omega
                    have hjn3 : (j : Int) < (n3 : Int) := by omega
                    have hjn4 : (j : Int) < (n4 : Int) := by omega
                    have hjmm : (j : Int) < (m : Int) := by omega
                    have e0 : ¬ gQ = x3 := by omega
                    have e1 : ¬ gQ = x4 := by omega
                    have e0' : ¬ x3 = gQ := by omega
                    have e1' : ¬ x4 = gQ := by omega
                    go_wp2
                    go_region_held3 (fun w' => w'.cell? ⟨x3, o3 + j, none⟩ = some (.string T) ∧ w'.cell? ⟨x4, o4 + j, none⟩ = some (.int .i64 B) ∧ w'.frozen? ⟨gQ, j * 9, none⟩ = false ∧ w'.frozen? ⟨gQ, j * 9 + 1, none⟩ = false ∧ w'.frozen? ⟨gQ, j * 9 + 2, none⟩ = false ∧ w'.frozen? ⟨gQ, j * 9 + 3, none⟩ = false ∧ w'.frozen? ⟨gQ, j * 9 + 4, none⟩ = false ∧ w'.frozen? ⟨gQ, j * 9 + 5, none⟩ = false ∧ w'.frozen? ⟨gQ, j * 9 + 6, none⟩ = false ∧ w'.frozen? ⟨gQ, j * 9 + 7, none⟩ = false ∧ w'.frozen? ⟨gQ, j * 9 + 8, none⟩ = false) (go_keep) (fail)
                    go_wp2
                    go_roundw
                    case rel =>
                      obtain ⟨c', r1, r2, r3⟩ := step_write (e := ⟨#[]⟩) (f := uAt wT wB) rfl hR hb HC.out HU.out
                      exact ⟨j + 1, c', by go_num, by omega, r1, hide r2, r3⟩
                    case measure => simp [intOf]; omega
                  · obtain rfl : m = j := by omega
                    have hWr : IsWrites wr (some ⟨w10.heap.size, 0, none⟩) (writesOf wT wB m) := writes_row hR (by rw [writesOf_length]) (fun i hi k hk => by rw [writesOf_length] at hi; rw [writesOf_get _ _ _ _ hi]; exact HC.out i hi k hk)
                    have hCall := add_any (entsOf sT sB sC n) (writesOf wT wB m) (some ⟨w10.heap.size, 0, none⟩) m p (.slice (some ⟨gS, 0, none⟩) n n) wr hWr (fun b off h => by cases h; exact ⟨by omega, fun h => by have h2 : w10.heap.size = gS := Option.some.inj h; omega⟩) ((hb.block p hpr).trans HP.out) (by rw [entsOf_length]; exact ownsRow_below HOS.out hb) (by rw [entsOf_length]; omega) (by rw [writesOf_length]; omega)
                    rw [writesOf_length] at hCall
                    have HCALL := hide hCall
                    have hb8r : Below w8.heap.size w8 wr := HB8.out.trans (hb.mono HB8.out.size)
                    have HB8R := hide hb8r
                    have hszr : w10.heap.size ≤ wr.heap.size := hb.size
                    clear hWr hCall hb8r hR HC hb HOS HP Y0 Y1 Y2 Y3 Y4 YT YB YRW YBW HB8 hrow hb11
                    go_wp2_with fail
                    refine HCALL.out.mono ?_
                    rintro e w12 ⟨rfl, v', hP12, hS12, hL12, hF12⟩
                    have hlen := end_len (sT := sT) (sB := sB) (sC := sC) (wT := wT) (wB := wB) HNW.out
                    have hb12 : Below w8.heap.size w8 w12 := HB8R.out.trans (hF12.toBelow HB8R.out.size (by rw [← HGS.out]; omega) (fun k h => by cases h; rw [← HGS.out]; exact Nat.le_refl _))
                    obtain ⟨a', cap', rfl, hE⟩ := ents_of hS12
                    have hcp : w12.cell? ⟨p, 0, none⟩ = some (.slice a' (runA inc1 (entsOf sT sB sC n) (writesOf wT wB m)).1.length cap') := by rw [cell_of_row w12 p 0 _ 61 (0, 0) hP12]; rfl
                    rw [hlen] at hcp
                    have HE := hide hE
                    have HLEN := hide hlen
                    have hp12 : p < w12.heap.size := (Array.getElem?_eq_some_iff.1 hP12).1
                    have U0 := hide (Z0.out.keep hb12)
                    have U1 := hide (Z1.out.keep hb12)
                    have UT := hide (ZT.out.keep hb12)
                    have UB := hide (ZB.out.keep hb12)
                    have URW := hide (HRW8.out.keep hb12)
                    have UBW := hide (HBW8.out.trans (hb12.mono HBW8.out.size))
                    clear hE hlen hP12 hS12 hL12 hF12 HCALL HB8R hb12 Z0 Z1 Z2 Z3 Z4 ZT ZB HRW8 HBW8
                    go_wp2
                    go_loopw [23] (fun i wr => ∃ (j : Nat), i = .int .i64 j ∧ j ≤ n ∧ Below w12.heap.size w12 wr) (fun i _ => n - (intOf i).toNat)
                    case atStart => exact ⟨0, rfl, Nat.zero_le _, Below.refl _ _⟩
                    case round =>
                      obtain ⟨j, rfl, hj, hb⟩ := hrel
                      by_cases hjn : j < n
                      · obtain ⟨x0, o0, rfl, hx0, hs0⟩ := U0.out (by rw [← HN0.out]; omega)
                        obtain ⟨x1, o1, rfl, hx1, hs1⟩ := U1.out (by rw [← HN1.out]; omega)
                        obtain ⟨g', rfl, hg', hes⟩ := HE.out (by rw [HLEN.out]; omega)
                        have f0 := (hb.cell (p := ⟨x0, o0 + j, none⟩) hx0).trans (hs0 j (by rw [← HN0.out]; omega))
                        have f1 := (hb.cell (p := ⟨x1, o1 + j, none⟩) hx1).trans (hs1 j (by rw [← HN1.out]; omega))
                        have f2 := (hb.cell (p := ⟨gW, j, none⟩) URW.out.lt).trans (URW.out.cell j (by omega))
                        obtain ⟨e1, e2, e3⟩ := hes j (by rw [HLEN.out]; omega)
                        have f3 := (hb.cell (p := ⟨p, 0, none⟩) hp12).trans hcp
                        have f4 := (hb.cell (p := ⟨g', j * 3, none⟩) hg').trans e1
                        have f5 := (hb.cell (p := ⟨g', j * 3 + 1, none⟩) hg').trans e2
                        have f6 := (hb.cell (p := ⟨g', j * 3 + 2, none⟩) hg').trans e3
                        rw [end_old hjn] at f4 f5
                        obtain ⟨ct, hct⟩ : ∃ c, c = ((runA inc1 (entsOf sT sB sC n) (writesOf wT wB m)).1[j]?.getD e0).2 := ⟨_, rfl⟩
                        rw [← hct] at f2 f6
                        unfold uAt at f4 f5
                        obtain ⟨T, hT⟩ : ∃ T, T = sT[j]?.getD ByteArray.empty := ⟨_, rfl⟩
                        obtain ⟨B, hB⟩ : ∃ B, B = sB[j]?.getD 0 := ⟨_, rfl⟩
                        simp only [← hT, ← hB] at f0 f1 f4 f5
                        clear hs0 hs1 hes e1 e2 e3 hct hT hB hcp
                        have hjw : IntKind.i64.wrap (j : Int) = (j : Int) := by rw [IntKind.wrap_i64]; omega
                        have hj0 : (0 : Int) ≤ (j : Int) := by omega
                        have hjn0 : (j : Int) < (n0 : Int) := by omega
                        have hjn1 : (j : Int) < (n1 : Int) := by omega
                        have hjnn : (j : Int) < (n : Int) := by omega
                        have hjL : (j : Int) < (n : Int) + (N.length : Int) := by omega
                        go_wp2
                        go_quiet (fail)
                        go_wp2
                        go_roundw
                        case rel => exact ⟨j + 1, by go_num, by omega, below_drewN hb _⟩
                        case measure => simp [intOf]; omega
                      · obtain rfl : n = j := by omega
                        go_wp2
                        go_loopw [24] (fun i wr => ∃ (j : Nat), i = .int .i64 j ∧ j ≤ N.length ∧ Below w12.heap.size w12 wr) (fun i _ => N.length - (intOf i).toNat)
                        case atStart => exact ⟨0, rfl, Nat.zero_le _, hb⟩
                        case round =>
                          obtain ⟨j, rfl, hj, hb⟩ := hrel
                          by_cases hjN : j < N.length
                          · obtain ⟨x0, o0, rfl, hx0, hs0⟩ := UT.out (by rw [List.length_map]; omega)
                            obtain ⟨x1, o1, rfl, hx1, hs1⟩ := UB.out (by rw [List.length_map]; omega)
                            obtain ⟨g', rfl, hg', hes⟩ := HE.out (by rw [HLEN.out]; omega)
                            have f0 := (hb.cell (p := ⟨x0, o0 + j, none⟩) hx0).trans (hs0 j (by rw [List.length_map]; omega))
                            have f1 := (hb.cell (p := ⟨x1, o1 + j, none⟩) hx1).trans (hs1 j (by rw [List.length_map]; omega))
                            obtain ⟨e1, e2, e3⟩ := hes (n + j) (by rw [HLEN.out]; omega)
                            have f3 := (hb.cell (p := ⟨p, 0, none⟩) hp12).trans hcp
                            have f4 := (hb.cell (p := ⟨g', (n + j) * 3, none⟩) hg').trans e1
                            have f5 := (hb.cell (p := ⟨g', (n + j) * 3 + 1, none⟩) hg').trans e2
                            have f6 := (hb.cell (p := ⟨g', (n + j) * 3 + 2, none⟩) hg').trans e3
                            rw [end_new HNW.out hjN] at f4 f5 f6
                            have hg0 : (N.map (·.1))[j]?.getD ByteArray.empty = (N[j]?.getD (ByteArray.empty, 0)).1 := by simp [hjN]
                            have hg1 : (N.map (·.2))[j]?.getD 0 = (N[j]?.getD (ByteArray.empty, 0)).2 := by simp [hjN]
                            rw [hg0] at f0
                            rw [hg1] at f1
                            obtain ⟨T, hT⟩ : ∃ T, T = (N[j]?.getD (ByteArray.empty, 0)).1 := ⟨_, rfl⟩
                            obtain ⟨B, hB⟩ : ∃ B, B = (N[j]?.getD (ByteArray.empty, 0)).2 := ⟨_, rfl⟩
                            simp only [← hT, ← hB] at f0 f1 f4 f5 f6
                            have hx0r : x0 < wr.heap.size := Nat.lt_of_lt_of_le hx0 hb.size
                            have hx1r : x1 < wr.heap.size := Nat.lt_of_lt_of_le hx1 hb.size
                            clear hs0 hs1 hes e1 e2 e3 hT hB hcp hg0 hg1
                            have hjw : IntKind.i64.wrap (j : Int) = (j : Int) := by rw [IntKind.wrap_i64]; omega
                            have hj0 : (0 : Int) ≤ (j : Int) := by omega
                            have hjNi : (j : Int) < (N.length : Int) := by omega
                            have hnj0 : (0 : Int) ≤ (n : Int) + (j : Int) := by omega
                            go_wp2
                            go_quiet (fail)
                            go_wp2
                            go_roundw
                            case rel => exact ⟨j + 1, by go_num, by omega, below_drewN (hb.alloc hb.size _) _⟩
                            case measure => simp [intOf]; omega
                          · obtain rfl : N.length = j := by omega
                            go_wp2
                            go_ret
                            exact ⟨rfl, UBW.out.trans (hb.mono UBW.out.size)⟩
end Go.Proofs.Qxb6600999a.W
