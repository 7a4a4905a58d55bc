import Derived.Test.Qxb6600999aLaw9W
namespace Go.Proofs.Qxb6600999a.W
open Go.RowKit Go.Proofs.Qxb6600999a.Plain
set_option linter.unusedVariables false
attribute [local go_sem ↓] Go.wp_at_zero Go.wp_at_succ

set_option maxRecDepth 100000 in
set_option maxHeartbeats 25600000 in
theorem law9 (wT : List ByteArray) (wB ls : List Int) (a0 a1 a2 : Option Addr) (c0 c1 c2 : Nat) (w : World)
    (hS0 : IsStrs w a0 wT) (hI1 : IsInts w a1 wB) (hI2 : IsInts w a2 ls)
    (k0 : NilOk a0 wT.length) (k1 : NilOk a1 wB.length) (k2 : NilOk a2 ls.length)
    (l0 : wT.length ≤ 4096) (l1 : wB.length ≤ 4096) (l2 : ls.length ≤ 4096) :
    Calls Try.prog 9 #[.slice a0 wT.length c0, .slice a1 wB.length c1, .slice a2 ls.length c2] w fun e w' => e = .returned (.bool true) ∧ Below w.heap.size w w' := by
  have HBY := hide (bytes34_any wT wB.length ls.length a0 a1 a2 c0 c1 c2 w hS0 (by omega) (by omega) (by omega))
  have HB0 := hide (strBytes_any wT a0 c0 w hS0 l0)
  have HC0 := hide (fun W h => cloneS_any wT a0 c0 W h (by omega) k0)
  have HC1 := hide (fun W h => cloneI_any wB a1 c1 W h (by omega) k1)
  have HC2 := hide (fun W h => cloneI_any ls a2 c2 W h (by omega) k2)
  obtain ⟨n0, hn0⟩ : ∃ n, n = wT.length := ⟨_, rfl⟩
  obtain ⟨n1, hn1⟩ : ∃ n, n = wB.length := ⟨_, rfl⟩
  obtain ⟨n2, hn2⟩ : ∃ n, n = ls.length := ⟨_, rfl⟩
  rw [← hn0] at l0 HBY HB0 HC0 ⊢
  rw [← hn1] at l1 HBY HC1 ⊢
  rw [← hn2] at l2 HBY HC2 ⊢
  have HN0 := hide hn0
  have HN1 := hide hn1
  have HN2 := hide hn2
  have J0 := hide hS0
  have J1 := hide hI1
  have J2 := hide hI2
  clear hn0 hn1 hn2 hS0 hI1 hI2 k0 k1 k2
  have q0 : decide ((4096 : Int) < (n0 : Int)) = false := by simp; omega
  have q1 : decide ((4096 : Int) < (n1 : Int)) = false := by simp; omega
  have q2 : decide ((4096 : Int) < (n2 : Int)) = false := by simp; omega
  go_enter Try.func9, Try.ntmps9
  go_wp2_with fail
  refine HBY.out.mono ?_
  rintro e w1 ⟨r, rfl, hww⟩
  obtain rfl : w = w1 := hww.symm
  cases r with
  | false =>
    go_wp2
    go_ret
    exact ⟨rfl, Below.refl _ _⟩
  | true =>
    go_wp2_with fail
    refine HB0.out.mono ?_
    rintro e w1 ⟨r1, rfl, hr1, hww⟩
    obtain rfl : w = w1 := hww.symm
    clear hww
    by_cases hsum : 1048576 < r1 + 8 * n1 + 8 * n2
    · go_wp2
      go_ret
      exact ⟨rfl, Below.refl _ _⟩
    have hsm : decide ((1048576 : Int) < (r1 : Int) + 8 * (n1 : Int) + 8 * (n2 : Int)) = false := by simp; omega
    go_wp2
    go_loop [7] (fun i => ∃ j : Nat, i = .int .i64 j ∧ j ≤ n2 ∧ Hid (∀ i, i < j → 0 ≤ ls[i]?.getD 0)) (fun i => n2 - (intOf i).toNat)
    case atStart => exact ⟨0, rfl, Nat.zero_le _, hide (fun i hi => by omega)⟩
    case round =>
      obtain ⟨j, rfl, hj, HNN⟩ := hrel
      by_cases hjn : j < n2
      · obtain ⟨x2, o2, rfl, hx2, hs2⟩ := J2.out (by rw [← HN2.out]; omega)
        have f2 := hs2 j (by rw [← HN2.out]; omega)
        obtain ⟨z, hzz⟩ : ∃ z, z = ls[j]?.getD 0 := ⟨_, rfl⟩
        rw [← hzz] at f2
        have HZ := hide hzz
        clear hs2 hzz
        by_cases hz : z < 0
        · have hdz : decide (z < 0) = true := by simp; omega
          go_wp2
          go_ret
          exact ⟨rfl, Below.refl _ _⟩
        · have hdz : decide (z < 0) = false := by simp; omega
          go_wp2
          go_round
          case rel => exact ⟨j + 1, by go_num, by omega, hide (fun i hi => by
            by_cases e : i = j
            · rw [e, ← HZ.out]; omega
            · exact HNN.out i (by omega))⟩
          case measure => simp [intOf]; omega
      · obtain rfl : n2 = j := by omega
        go_wp2_with fail
        refine (HC0.out _ J0.out).mono ?_
        rintro e w1 ⟨b0, d0, rfl, hA0, hb1⟩
        rw [← HN0.out]
        have K0 := hide hA0
        have hbA := hb1
        clear hA0 hb1
        go_wp2_with fail
        refine (HC1.out _ (J1.out.keep hbA)).mono ?_
        rintro e w2 ⟨b1, d1, rfl, hA, hb⟩
        rw [← HN1.out]
        have K0' := hide (K0.out.keep hb)
        have K1 := hide hA
        have hbB := hbA.trans (hb.mono hbA.size)
        clear hA hb hbA K0
        go_wp2_with fail
        refine (HC2.out _ (J2.out.keep hbB)).mono ?_
        rintro e w3 ⟨b2, d2, rfl, hA, hb⟩
        rw [← HN2.out]
        have K0 := hide (K0'.out.keep hb)
        have K1' := hide (K1.out.keep hb)
        have K2 := hide hA
        have hbA := hbB.trans (hb.mono hbB.size)
        have HBW := hide hbA
        clear hA hb hbB K0' K1 hbA HBY HB0 HC0 HC1 HC2 J0 J1 J2
        go_wp2_with fail
        refine (min_nat n0 n1 _).mono ?_
        rintro e w6 ⟨rfl, hww⟩
        obtain rfl : w3 = w6 := hww.symm
        obtain ⟨m, hm⟩ : ∃ m, m = min n0 n1 := ⟨_, rfl⟩
        have hmn0 : m ≤ n0 := by omega
        have hmn1 : m ≤ n1 := by omega
        rw [← hm]
        clear hm hww
        obtain ⟨i68, hi68, hz680, hz681, hz682⟩ := info_parts info68
        have H268 := hide hz682
        clear hz682
        go_wp2_with (at_make; refine wpList_make_full _ rfl _ _ 66 rfl w3.heap.size 68 i68 _ 9 Try.underlying66 hi68 hz680 hz681 _ _ _ _ m rfl rfl rfl rfl (by rw [H268.out]; omega) (by unfold maxLen; omega) (Nat.le_refl _) ?_)
        intro w4 hown hgrow
        have hrow := RowV.made hown
        have hb4 : Below w3.heap.size w3 w4 := (Below.refl _ _).grown hgrow (Nat.le_refl _) (fun k h => by cases h)
        clear hown hgrow
        go_wp2
        go_loopw [10] (fun i wr => ∃ (j : Nat) (c : Nat → Value), i = .int .i64 j ∧ j ≤ m ∧ RowV wr 68 w3.heap.size (m * 9) c ∧ Hid (∀ i, i < j → ∀ k, k < 9 → c (i * 9 + k) = wrCell (uAt wT wB i) k) ∧ Below w3.heap.size w3 wr) (fun i _ => m - (intOf i).toNat)
        case atStart => exact ⟨0, _, rfl, Nat.zero_le _, hrow, hide (fun i hi => by omega), hb4⟩
        case round =>
          obtain ⟨j, c, rfl, hj, hR, HC, hb⟩ := hrel
          by_cases hjm : j < m
          · obtain ⟨gQ, hgQ⟩ : ∃ g, g = w3.heap.size := ⟨_, rfl⟩
            obtain ⟨x3, o3, rfl, hx3, hs3⟩ := K0.out (by rw [← HN0.out]; omega)
            obtain ⟨x4, o4, rfl, hx4, hs4⟩ := K1'.out (by rw [← HN1.out]; omega)
            have f0 := (hb.cell (p := ⟨x3, o3 + j, none⟩) hx3).trans (hs3 j (by rw [← HN0.out]; omega))
            have f1 := (hb.cell (p := ⟨x4, o4 + j, none⟩) hx4).trans (hs4 j (by rw [← HN1.out]; omega))
            rw [← hgQ] at hx3 hx4 hR hb ⊢
            have HGQ := hide hgQ
            have f2 := hR.free
            obtain ⟨v0, g0⟩ : ∃ v, wr.cell? ⟨gQ, j * 9, none⟩ = some v := ⟨_, hR.cell _ (by omega)⟩
            obtain ⟨v1, g1⟩ : ∃ v, wr.cell? ⟨gQ, j * 9 + 1, none⟩ = some v := ⟨_, hR.cell _ (by omega)⟩
            obtain ⟨v2, g2⟩ : ∃ v, wr.cell? ⟨gQ, j * 9 + 2, none⟩ = some v := ⟨_, hR.cell _ (by omega)⟩
            obtain ⟨v3, g3⟩ : ∃ v, wr.cell? ⟨gQ, j * 9 + 3, none⟩ = some v := ⟨_, hR.cell _ (by omega)⟩
            obtain ⟨v4, g4⟩ : ∃ v, wr.cell? ⟨gQ, j * 9 + 4, none⟩ = some v := ⟨_, hR.cell _ (by omega)⟩
            obtain ⟨v5, g5⟩ : ∃ v, wr.cell? ⟨gQ, j * 9 + 5, none⟩ = some v := ⟨_, hR.cell _ (by omega)⟩
            obtain ⟨v6, g6⟩ : ∃ v, wr.cell? ⟨gQ, j * 9 + 6, none⟩ = some v := ⟨_, hR.cell _ (by omega)⟩
            obtain ⟨v7, g7⟩ : ∃ v, wr.cell? ⟨gQ, j * 9 + 7, none⟩ = some v := ⟨_, hR.cell _ (by omega)⟩
            obtain ⟨v8, g8⟩ : ∃ v, wr.cell? ⟨gQ, j * 9 + 8, none⟩ = some v := ⟨_, hR.cell _ (by omega)⟩
            have k0 := f2 (j * 9)
            have k1 := f2 (j * 9 + 1)
            have k2 := f2 (j * 9 + 2)
            have k3 := f2 (j * 9 + 3)
            have k4 := f2 (j * 9 + 4)
            have k5 := f2 (j * 9 + 5)
            have k6 := f2 (j * 9 + 6)
            have k7 := f2 (j * 9 + 7)
            have k8 := f2 (j * 9 + 8)
            obtain ⟨T, hT⟩ : ∃ T, T = wT[j]?.getD ByteArray.empty := ⟨_, rfl⟩
            obtain ⟨B, hB⟩ : ∃ B, B = wB[j]?.getD 0 := ⟨_, rfl⟩
            rw [← hT] at f0
            rw [← hB] at f1
            have HU : Hid (uAt wT wB j = (T, B)) := by unfold uAt; rw [hT, hB]; rfl
            clear hT hB hs3 hs4 f2 hgQ
            have hjw : IntKind.i64.wrap (j : Int) = (j : Int) := by rw [IntKind.wrap_i64]; omega
            have hj0 : (0 : Int) ≤ (j : Int) := by omega
            have hjn0 : (j : Int) < (n0 : Int) := by omega
            have hjn1 : (j : Int) < (n1 : Int) := by omega
            have hjmm : (j : Int) < (m : Int) := by omega
            have e0 : ¬ gQ = x3 := by omega
            have e1 : ¬ gQ = x4 := by omega
            have e0' : ¬ x3 = gQ := by omega
            have e1' : ¬ x4 = gQ := by omega
            go_wp2
            go_region_held3 (fun w' => w'.cell? ⟨x3, o3 + j, none⟩ = some (.string T) ∧ w'.cell? ⟨x4, o4 + j, none⟩ = some (.int .i64 B) ∧ w'.frozen? ⟨gQ, j * 9, none⟩ = false ∧ w'.frozen? ⟨gQ, j * 9 + 1, none⟩ = false ∧ w'.frozen? ⟨gQ, j * 9 + 2, none⟩ = false ∧ w'.frozen? ⟨gQ, j * 9 + 3, none⟩ = false ∧ w'.frozen? ⟨gQ, j * 9 + 4, none⟩ = false ∧ w'.frozen? ⟨gQ, j * 9 + 5, none⟩ = false ∧ w'.frozen? ⟨gQ, j * 9 + 6, none⟩ = false ∧ w'.frozen? ⟨gQ, j * 9 + 7, none⟩ = false ∧ w'.frozen? ⟨gQ, j * 9 + 8, none⟩ = false) (go_keep) (fail)
            go_wp2
            go_roundw
            case rel =>
              obtain ⟨c', r1, r2, r3⟩ := step_write (e := ⟨#[]⟩) (f := uAt wT wB) rfl hR hb HC.out HU.out
              exact ⟨j + 1, c', by go_num, by omega, r1, hide r2, r3⟩
            case measure => simp [intOf]; omega
          · obtain rfl : m = j := by omega
            have HW : Hid (∀ i, i < m → ∀ k, k < 9 → c (i * 9 + k) = wrCell (uAt wT wB i) k) := HC
            have K0r := hide (K0.out.keep hb)
            have K1r := hide (K1'.out.keep hb)
            have K2r := hide (K2.out.keep hb)
            have HBWr := hide (HBW.out.trans (hb.mono HBW.out.size))
            obtain ⟨gQ, hgQ⟩ : ∃ g, g = w3.heap.size := ⟨_, rfl⟩
            rw [← hgQ] at hR ⊢
            have HRQ := hide hR
            have hQlt : gQ < wr.heap.size := hR.lt
            obtain ⟨w5, hw5⟩ : ∃ w5, w5 = wr := ⟨_, rfl⟩
            rw [← hw5]
            rw [← hw5] at K0r K1r K2r HBWr HRQ hQlt
            clear hgQ HC hb hR K0 K1' K2 HBW hrow hb4 hw5
            obtain ⟨i3, hi3, hz30, hz31, hz32⟩ := info_parts info3
            have H23 := hide hz32
            clear hz32
            go_wp2_with (at_make; refine wpList_make_full _ rfl _ _ 56 rfl w5.heap.size 3 i3 (.int .i64 0) 1 Try.underlying56 hi3 hz30 hz31 _ _ _ _ n2 rfl rfl rfl rfl (by rw [H23.out]; omega) (by unfold maxLen; omega) (Nat.le_refl _) ?_)
            intro w6 hown hgrow
            have hrow6 := RowV.made hown
            have hb6 : Below w5.heap.size w5 w6 := (Below.refl _ _).grown hgrow (Nat.le_refl _) (fun k h => by cases h)
            clear hown hgrow
            go_wp2_with (at_make; refine wpList_make_full _ rfl _ _ 56 rfl w6.heap.size 3 i3 (.int .i64 0) 1 Try.underlying56 hi3 hz30 hz31 _ _ _ _ n2 rfl rfl rfl rfl (by rw [H23.out]; omega) (by unfold maxLen; omega) (Nat.le_refl _) ?_)
            intro w7 hown hgrow
            have hrow7 := RowV.made hown
            have hb7 : Below w6.heap.size w6 w7 := (Below.refl _ _).grown hgrow (Nat.le_refl _) (fun k h => by cases h)
            clear hown hgrow
            have hrow67 := hrow6.keep hb7
            have hb57 : Below w5.heap.size w5 w7 := hb6.trans (hb7.mono hb6.size)
            go_wp2
            have hg56 : w5.heap.size < w6.heap.size := hrow6.lt
            have hg67 : w6.heap.size < w7.heap.size := hrow7.lt
            have hbp : ∀ o, Below w5.heap.size w5 (w7.alloc o) := fun o => hb57.alloc hb57.size _
            have hr6 : ∀ o, RowV (w7.alloc o) 3 w5.heap.size (n2 * 1) _ := fun o => hrow67.keep ((Below.refl _ _).alloc (Nat.le_refl _) _)
            have hr7 : ∀ o, RowV (w7.alloc o) 3 w6.heap.size (n2 * 1) _ := fun o => hrow7.keep ((Below.refl _ _).alloc (Nat.le_refl _) _)
            have hpp : ∀ v, (w7.alloc (.cells #[v] 61)).heap[w7.heap.size]? = some (.cells #[v] 61 (0, 0)) := fun v => heap_alloc_new _ _
            have hps : ∀ o, w7.heap.size < (w7.alloc o).heap.size := fun o => by simp
            clear hrow6 hrow7 hrow67 hb6 hb7 hb57
            obtain ⟨gS, hgS⟩ : ∃ g, g = w5.heap.size := ⟨_, rfl⟩
            have HGS := hide hgS
            rw [← hgS] at hg56 hbp hr6 hQlt ⊢
            clear hgS
            generalize w6.heap.size = gE at *
            generalize w7.heap.size = p at *
            go_loopw [14, 15] (fun vp vc wr => ∃ (c : Nat) (v : Value) (cS cE : Nat → Value), vc = .int .i64 c ∧ vp = .int .i64 (posA ls m c) ∧ c ≤ n2 ∧ RowV wr 3 gS (n2 * 1) cS ∧ RowV wr 3 gE (n2 * 1) cE ∧ Hid (∀ i, i < c → cS i = .int .i64 (posA ls m i) ∧ cE i = .int .i64 (posA ls m (i + 1))) ∧ wr.heap[p]? = some (.cells #[v] 61 (0, 0)) ∧ wr.ownsRow 0 65 3 v (stA ls (writesOf wT wB m) c).length (entCells (stA ls (writesOf wT wB m) c)) ∧ (∀ g, v.ownBlock = some g → p < g) ∧ Below gS w5 wr) (fun _ i _ => n2 - (intOf i).toNat)
            case atStart => exact ⟨0, .slice none 0 0, _, _, rfl, rfl, Nat.zero_le _, hr6 _, hr7 _, hide (fun i hi => by omega), hpp _, World.ownsRow_nil _ _ _ _, (fun g h => by cases h), hbp _⟩
            case round =>
              obtain ⟨c, v, cS, cE, rfl, rfl, hcn, hRS, hRE, HSE, hP, hSt, hvb, hb⟩ := hrel
              by_cases hcl : c < n2
              · obtain ⟨x2, o2, rfl, hx2, hs2⟩ := K2r.out (by rw [← HN2.out]; omega)
                rw [← HGS.out] at hx2
                have f2 := (hb.cell (p := ⟨x2, o2 + c, none⟩) hx2).trans (hs2 c (by rw [← HN2.out]; omega))
                have hz0 := HNN.out c hcl
                obtain ⟨zn, hzn⟩ : ∃ zn : Nat, ls[c]?.getD 0 = (zn : Int) := ⟨(ls[c]?.getD 0).toNat, by omega⟩
                have hEE : posA ls m (c + 1) = if (m : Int) - (posA ls m c : Int) ≤ (zn : Int) then m else posA ls m c + zn := by
                  rw [posA, hzn]; rfl
                rw [hzn] at f2
                have hPm := posA_le ls m c
                have hPE := posA_mono ls m c
                have hEm := posA_le ls m (c + 1)
                obtain ⟨P, hPP⟩ : ∃ P, P = posA ls m c := ⟨_, rfl⟩
                obtain ⟨E, hE⟩ : ∃ E, E = posA ls m (c + 1) := ⟨_, rfl⟩
                rw [← hE] at hEE hPE hEm
                rw [← hPP] at hEE hPE hPm ⊢
                have HPP := hide hPP
                have HEE := hide hE
                have hStl : (stA ls (writesOf wT wB m) c).length ≤ m := stA_length ls wT wB m c (by omega)
                have f3 := hRS.cell c (by omega)
                have f4 := hRS.free c
                have f5 := hRE.cell c (by omega)
                have f6 := hRE.free c
                have f7 : (wr.setCell ⟨gS, c, none⟩ (.int .i64 P)).cell? ⟨gE, c, none⟩ = some (cE c) := (cell_off (by show gS ≠ gE; omega)).trans f5
                have f8 : (wr.setCell ⟨gS, c, none⟩ (.int .i64 P)).frozen? ⟨gE, c, none⟩ = false := (hRE.other _ _ (by show gE ≠ gS; omega)).free c
                generalize cS c = uS at f3
                generalize cE c = uE at f5 f7
                have hpr : p < wr.heap.size := (Array.getElem?_eq_some_iff.1 hP).1
                have hstc : stA ls (writesOf wT wB m) (c + 1) = (runA inc1 (stA ls (writesOf wT wB m) c) (segA (writesOf wT wB m) P E)).1 := by
                  rw [stA, writesOf_length, ← HPP.out, ← HEE.out]
                have HCALL : Hid (∀ o capw, (o = P * 9 ∨ P = E) → Calls Try.prog 33 #[.pointer (some ⟨p, 0, none⟩), .slice (some ⟨gQ, o, none⟩) (E - P) capw] ((wr.setCell ⟨gS, c, none⟩ (.int .i64 P)).setCell ⟨gE, c, none⟩ (.int .i64 E)) (Added ((wr.setCell ⟨gS, c, none⟩ (.int .i64 P)).setCell ⟨gE, c, none⟩ (.int .i64 E)) p v (stA ls (writesOf wT wB m) (c + 1)))) := by
                  intro o capw ho
                  rw [hstc]
                  exact pre_call HRQ.out HW.out hQlt hg56 hg67 hPE hEm (by omega) hP hSt hStl hvb hb ho
                have HSTEP : Hid (∀ e w2, Added ((wr.setCell ⟨gS, c, none⟩ (.int .i64 P)).setCell ⟨gE, c, none⟩ (.int .i64 E)) p v (stA ls (writesOf wT wB m) (c + 1)) e w2 → e = .returned (.tuple #[]) ∧ ∃ (c' : Nat) (v : Value) (cS cE : Nat → Value), c' = c + 1 ∧ E = posA ls m (c + 1) ∧ c' ≤ n2 ∧ RowV w2 3 gS (n2 * 1) cS ∧ RowV w2 3 gE (n2 * 1) cE ∧ Hid (∀ i, i < c + 1 → cS i = .int .i64 (posA ls m i) ∧ cE i = .int .i64 (posA ls m (i + 1))) ∧ w2.heap[p]? = some (.cells #[v] 61 (0, 0)) ∧ w2.ownsRow 0 65 3 v (stA ls (writesOf wT wB m) (c + 1)).length (entCells (stA ls (writesOf wT wB m) (c + 1))) ∧ (∀ g, v.ownBlock = some g → p < g) ∧ Below gS w5 w2) := by
                  intro e w2 hA
                  obtain ⟨he, v', k1, k2, k3, k4, k5, k6⟩ := step_call hg56 hg67 hRS hRE hpr hvb hb (Nat.le_of_eq HGS.out) hA
                  refine ⟨he, c + 1, v', _, _, rfl, HEE.out, by omega, k1, k2, hide (fun i hi => ?_), k3, k4, k5, k6⟩
                  by_cases e : i = c
                  · subst e
                    simp only [if_true]
                    rw [← HPP.out, ← HEE.out]
                    exact ⟨rfl, rfl⟩
                  · simp only [e, if_false]
                    exact HSE.out i (by omega)
                clear hs2 hz0 hzn hP hstc hPP hE hRS hRE hSt hvb HSE hStl
                by_cases hPme : P = m
                · have hd : (m : Int) - (P : Int) ≤ (zn : Int) := by omega
                  rw [if_pos hd] at hEE
                  obtain rfl : E = P := by omega
                  subst hPme
                  have hdd : decide ((E : Int) - (E : Int) ≤ (zn : Int)) = true := decide_eq_true hd
                  have HC2 : Hid (∀ capw, Calls Try.prog 33 #[.pointer (some ⟨p, 0, none⟩), .slice (some ⟨gQ, 0, none⟩) 0 capw] ((wr.setCell ⟨gS, c, none⟩ (.int .i64 E)).setCell ⟨gE, c, none⟩ (.int .i64 E)) (Added ((wr.setCell ⟨gS, c, none⟩ (.int .i64 E)).setCell ⟨gE, c, none⟩ (.int .i64 E)) p v (stA ls (writesOf wT wB E) (c + 1)))) := by
                    intro capw
                    have h := HCALL.out 0 capw (Or.inr rfl)
                    rw [Nat.sub_self] at h
                    exact h
                  go_wp2_with fail
                  refine (HC2.out _).mono ?_
                  intro e w2 hA
                  obtain ⟨rfl, hres⟩ := HSTEP.out e w2 hA
                  have HRES := hide hres
                  clear hA hres
                  go_wp2
                  go_roundw
                  case rel =>
                    obtain ⟨c', v', cS', cE', rfl, h1, h2, h3, h4, h5, h6, h7, h8, h9⟩ := HRES.out
                    exact ⟨c + 1, v', cS', cE', by go_num, by rw [← h1], h2, h3, h4, h5, h6, h7, h8, h9⟩
                  case measure => simp [intOf]; omega
                by_cases hd : (m : Int) - (P : Int) ≤ (zn : Int)
                · rw [if_pos hd] at hEE
                  subst hEE
                  have hdd : decide ((E : Int) - (P : Int) ≤ (zn : Int)) = true := decide_eq_true hd
                  go_wp2_with fail
                  refine (HCALL.out _ _ (Or.inl rfl)).mono ?_
                  intro e w2 hA
                  obtain ⟨rfl, hres⟩ := HSTEP.out e w2 hA
                  have HRES := hide hres
                  clear hA hres
                  go_wp2
                  go_roundw
                  case rel =>
                    obtain ⟨c', v', cS', cE', rfl, h1, h2, h3, h4, h5, h6, h7, h8, h9⟩ := HRES.out
                    exact ⟨c + 1, v', cS', cE', by go_num, by rw [← h1], h2, h3, h4, h5, h6, h7, h8, h9⟩
                  case measure => simp [intOf]; omega
                · rw [if_neg hd] at hEE
                  have hdd : decide ((m : Int) - (P : Int) ≤ (zn : Int)) = false := decide_eq_false hd
                  subst hEE
                  have HC3 : Hid (∀ capw, Calls Try.prog 33 #[.pointer (some ⟨p, 0, none⟩), .slice (some ⟨gQ, P * 9, none⟩) zn capw] ((wr.setCell ⟨gS, c, none⟩ (.int .i64 P)).setCell ⟨gE, c, none⟩ (.int .i64 ((P : Int) + (zn : Int)))) (Added ((wr.setCell ⟨gS, c, none⟩ (.int .i64 P)).setCell ⟨gE, c, none⟩ (.int .i64 ((P : Int) + (zn : Int)))) p v (stA ls (writesOf wT wB m) (c + 1)))) := by
                    intro capw
                    have h := HCALL.out _ capw (Or.inl rfl)
                    rw [Nat.add_sub_cancel_left] at h
                    exact h
                  go_wp2_with fail
                  refine (HC3.out _).mono ?_
                  intro e w2 hA
                  obtain ⟨rfl, hres⟩ := HSTEP.out e w2 hA
                  have HRES := hide hres
                  clear hA hres
                  go_wp2
                  go_roundw
                  case rel =>
                    obtain ⟨c', v', cS', cE', rfl, h1, h2, h3, h4, h5, h6, h7, h8, h9⟩ := HRES.out
                    exact ⟨c + 1, v', cS', cE', by go_num, by rw [← h1]; simp, h2, h3, h4, h5, h6, h7, h8, h9⟩
                  case measure => simp [intOf]; omega
              · obtain rfl : n2 = c := by omega
                obtain ⟨hlaw1, hlaw2⟩ := script_law ls wT wB m n2 (by omega)
                have HLAW2 := hide hlaw2
                obtain ⟨P, hPP⟩ : ∃ P, P = posA ls m n2 := ⟨_, rfl⟩
                have hPm := posA_le ls m n2
                rw [← hPP] at hlaw1 hPm ⊢
                have HLAW1 := hide hlaw1
                have hb5 : Below w5.heap.size w5 wr := by rw [← HGS.out]; exact hb
                have Z0 := hide (K0r.out.keep hb5)
                have Z1 := hide (K1r.out.keep hb5)
                have HRS := hide (hRS.congr (d := fun i => .int .i64 (posA ls m i)) (fun i hi => (HSE.out i (by omega)).1))
                have HRE := hide (hRE.congr (d := fun i => .int .i64 (posA ls m (i + 1))) (fun i hi => (HSE.out i (by omega)).2))
                have HBW9 := hide (HBWr.out.trans (hb5.mono HBWr.out.size))
                obtain ⟨a', cap', rfl, hE⟩ := ents_of hSt
                have hcp : wr.cell? ⟨p, 0, none⟩ = some (.slice a' (stA ls (writesOf wT wB m) n2).length cap') := by rw [cell_of_row wr p 0 _ 61 (0, 0) hP]; rfl
                have hpr : p < wr.heap.size := (Array.getElem?_eq_some_iff.1 hP).1
                have HE := hide hE
                obtain ⟨w9, hw9⟩ : ∃ w9, w9 = wr := ⟨_, rfl⟩
                rw [← hw9] at Z0 Z1 HRS HRE HBW9 HE hcp hpr
                have hbs : Below w9.heap.size w9 wr := by rw [← hw9]; exact Below.refl _ _
                have hvs : ∀ e, wr.ownsRow w9.heap.size e 1 (.slice none 0 0) 0 [] := fun e => ⟨by simp, .inl ⟨rfl, rfl⟩⟩
                obtain ⟨i9, hi9, hz90, hz91, hz92⟩ := info_parts info9
                have H29 := hide hz92
                clear hz92 hw9 hE hP hSt hvb hRS hRE HSE hb hb5 hlaw1 hlaw2 hPP HBWr K0r K1r K2r hbp hr6 hr7 hpp hps HRQ HW
                go_wp2
                go_loopw [17, 18, 19] (fun vT vB i wr => ∃ (j : Nat) (N : List U), i = .int .i64 j ∧ j ≤ P ∧ Hid (N = newsOf [] ((writesOf wT wB m).take j)) ∧ wr.ownsRow w9.heap.size 9 1 vT N.length (sCells N) ∧ wr.ownsRow w9.heap.size 3 1 vB N.length (iCells N) ∧ Below w9.heap.size w9 wr) (fun _ _ i _ => P - (intOf i).toNat)
                case atStart => exact ⟨0, [], rfl, Nat.zero_le _, hide (by simp [newsOf]), hvs 9, hvs 3, hbs⟩
                case round =>
                  obtain ⟨j, N, rfl, hj, HN, hvT, hvB, hb⟩ := hrel
                  by_cases hjP : j < P
                  · obtain ⟨x3, o3, rfl, hx3, hs3⟩ := Z0.out (by rw [← HN0.out]; omega)
                    obtain ⟨x4, o4, rfl, hx4, hs4⟩ := Z1.out (by rw [← HN1.out]; omega)
                    have f0 := (hb.cell (p := ⟨x3, o3 + j, none⟩) hx3).trans (hs3 j (by rw [← HN0.out]; omega))
                    have f1 := (hb.cell (p := ⟨x4, o4 + j, none⟩) hx4).trans (hs4 j (by rw [← HN1.out]; omega))
                    obtain ⟨T, hT⟩ : ∃ T, T = wT[j]?.getD ByteArray.empty := ⟨_, rfl⟩
                    obtain ⟨B, hB⟩ : ∃ B, B = wB[j]?.getD 0 := ⟨_, rfl⟩
                    rw [← hT] at f0
                    rw [← hB] at f1
                    have HU : Hid (uAt wT wB j = (T, B)) := by unfold uAt; rw [hT, hB]; rfl
                    clear hT hB hs3 hs4 hcp
                    have HUW : Hid ((writesOf wT wB m)[j]?.getD (ByteArray.empty, 0) = (T, B)) := by
                      show _ = _
                      rw [writesOf_get _ _ _ _ (by omega)]; exact HU.out
                    have HJW : Hid (j < (writesOf wT wB m).length) := by show j < _; rw [writesOf_length]; omega
                    have hNj : N.length ≤ j := news_len HN.out
                    obtain ⟨aT, capT, rfl, hIT⟩ := strs_own hvT
                    obtain ⟨aB, capB, rfl, hIB⟩ := ints_own hvB
                    have hjn0 : (j : Int) < (n0 : Int) := by omega
                    have hjn1 : (j : Int) < (n1 : Int) := by omega
                    have YT := hide hIT
                    have YB := hide hIB
                    clear hIT hIB
                    have HAM2 : Hid (∀ Z, IsStrs Z aT (N.map (·.1)) → IsInts Z aB (N.map (·.2)) → Calls Try.prog 32 #[.slice aT N.length capT, .slice aB N.length capB, .int .i64 0, .int .i64 N.length, .string T, .int .i64 B] Z fun e w' => e = .returned (.bool (amongB (N.map (·.1)) (N.map (·.2)) 0 N.length (T, B))) ∧ w' = Z) := by
                      intro Z h1 h2
                      have h := among_any (N.map (·.1)) (N.map (·.2)) aT aB capT capB 0 N.length T B Z h1 h2 (by rw [List.length_map]; omega) (by rw [List.length_map]; omega) (by rw [List.length_map]; omega) (by rw [List.length_map]; omega) (Nat.zero_le _)
                      rw [List.length_map, List.length_map] at h
                      exact h
                    cases hr2 : amongB (N.map (·.1)) (N.map (·.2)) 0 N.length (T, B) with
                    | true =>
                      rw [hr2] at HAM2
                      have HR2 := hide hr2
                      clear hr2
                      go_wp2
                      go_quiet ((go_at_call 32; refine Calls.quiet_of_same (HAM2.out _ ?_ ?_); exact YT.out; exact YB.out))
                      go_wp2
                      go_roundw
                      case rel => exact ⟨j + 1, N, by go_num, by omega, hide (news_stay HJW.out HUW.out HN.out (Or.inr (amongN.1 HR2.out))), by exact hvT, by exact hvB, below_drewN hb _⟩
                      case measure => simp [intOf]; omega
                    | false =>
                      rw [hr2] at HAM2
                      have HR2 := hide hr2
                      clear hr2
                      go_wp2
                      go_quiet ((go_at_call 32; refine Calls.quiet_of_same (HAM2.out _ ?_ ?_); exact YT.out; exact YB.out))
                      go_wp2_with (at_builtin; refine wpList_append_own _ rfl (.tmp 153) (.tmp 158) 35 rfl w9.heap.size 9 i9 (.string ByteArray.empty) 1 16 Try.underlying35 hi9 hz90 hz91 H29.out rfl (by decide) _ _ _ rfl (World.ownsRow.alloc (w := wr.drewN _) (by exact hvT) _) _ 1 1 [.string T] rfl rfl (by exact cell_one_new (wr.drewN _) _ _) (by simp [Value.oneCell']) (by unfold maxLen; omega) (by omega) (by have := hb.size; simp; omega) ?_)
                      intro vT' w1 hown1 hgrow1 hnil1
                      have hsz7 := hb.size
                      have hb1 : Below w9.heap.size w9 w1 := ((below_drewN hb _).alloc hsz7 _).grown hgrow1 (by simp; omega) (fun k h => (hvT.lt k h).1)
                      have hvB1 : w1.ownsRow w9.heap.size 3 1 (.slice aB N.length capB) N.length (iCells N) := (World.ownsRow.alloc (w := wr.drewN _) (by exact hvB) _).kept hgrow1 (apartSI hvT hvB)
                      have f1' : w1.cell? ⟨x4, o4 + j, none⟩ = some (.int .i64 B) := (hb1.cell (p := ⟨x4, o4 + j, none⟩) hx4).trans ((hb.cell (p := ⟨x4, o4 + j, none⟩) hx4).symm.trans f1)
                      have hsz1 := hb1.size
                      clear hnil1
                      go_wp2_with (at_builtin; refine wpList_append_own _ rfl (.tmp 160) (.tmp 165) 56 rfl w9.heap.size 3 i3 (.int .i64 0) 1 8 Try.underlying56 hi3 hz30 hz31 H23.out rfl (by decide) _ _ _ rfl (hvB1.alloc _) _ 1 1 [.int .i64 B] rfl rfl (cell_one_new w1 _ _) (by simp [Value.oneCell']) (by unfold maxLen; omega) (by omega) (by simp; omega) ?_)
                      intro vB' w2 hown2 hgrow2 hnil2
                      have hb2 : Below w9.heap.size w9 w2 := (hb1.alloc hsz1 _).grown hgrow2 (by simp; omega) (fun k h => (hvB.lt k h).1)
                      have hfin := step_pair (X := wr.drewN _) (by exact hvT) (by exact hvB) hown1 hgrow1 hown2 hgrow2
                      clear hown1 hgrow1 hown2 hgrow2 hnil2 hvB1 f1' f0 f1 hb1 hsz1
                      go_wp2
                      go_roundw
                      case rel => exact ⟨j + 1, N ++ [(T, B)], by go_num, by omega, hide (news_new HJW.out HUW.out HN.out no_has_nil (fun h => by have h1 := amongN.2 h; rw [HR2.out] at h1; cases h1)), hfin.1, hfin.2, hb2⟩
                      case measure => simp [intOf]; omega
                  · obtain rfl : P = j := by omega
                    have hlen : (stA ls (writesOf wT wB m) n2).length = N.length := by
                      rw [HN.out, ← HLAW1.out, List.length_map]
                    have hNP : N.length ≤ P := news_len HN.out
                    have HUN : Hid (∀ k, k < N.length → ((stA ls (writesOf wT wB m) n2)[k]?.getD e0).1 = N[k]?.getD (ByteArray.empty, 0)) := by
                      intro k hk
                      have h := HN.out
                      rw [← HLAW1.out] at h
                      rw [h]
                      rw [← hlen] at hk
                      simp [hk]
                    have HCN : Hid (∀ k, k < N.length → ((stA ls (writesOf wT wB m) n2)[k]?.getD e0).2 = (cntA ls wT wB m (N[k]?.getD (ByteArray.empty, 0)) n2 : Int)) := by
                      intro k hk
                      rw [HLAW2.out k (by rw [hlen]; exact hk)]
                      unfold un
                      rw [HUN.out k hk]
                    rw [hlen] at hcp
                    have HLEN := hide hlen
                    have U0 := hide (Z0.out.keep hb)
                    have U1 := hide (Z1.out.keep hb)
                    have URS := hide (HRS.out.keep hb)
                    have URE := hide (HRE.out.keep hb)
                    have UBW := hide (HBW9.out.trans (hb.mono HBW9.out.size))
                    have hcp' := (hb.cell (p := ⟨p, 0, none⟩) hpr).trans hcp
                    have hp' : p < wr.heap.size := Nat.lt_of_lt_of_le hpr hb.size
                    have UE : Hid (IsEnts wr a' (stA ls (writesOf wT wB m) n2)) := by
                      intro h0
                      obtain ⟨g', hg1, hg2, hg3⟩ := HE.out h0
                      refine ⟨g', hg1, Nat.lt_of_lt_of_le hg2 hb.size, fun j hj => ?_⟩
                      have h3 := hg3 j hj
                      exact ⟨(hb.cell (p := ⟨g', j * 3, none⟩) hg2).trans h3.1, (hb.cell (p := ⟨g', j * 3 + 1, none⟩) hg2).trans h3.2.1, (hb.cell (p := ⟨g', j * 3 + 2, none⟩) hg2).trans h3.2.2⟩
                    obtain ⟨aT, capT, rfl, hIT⟩ := strs_own hvT
                    obtain ⟨aB, capB, rfl, hIB⟩ := ints_own hvB
                    have UT := hide hIT
                    have UB := hide hIB
                    obtain ⟨wA, hwA⟩ : ∃ wA, wA = wr := ⟨_, rfl⟩
                    rw [← hwA]
                    rw [← hwA] at U0 U1 URS URE UBW hcp' hp' UE UT UB
                    clear hwA hIT hIB hvT hvB hb Z0 Z1 HRS HRE HBW9 hcp hlen HE hpr HN HLAW1 HLAW2 hbs hvs
                    go_wp2
                    go_loopw [20] (fun i wr => ∃ (k : Nat), i = .int .i64 k ∧ k ≤ N.length ∧ Below wA.heap.size wA wr) (fun i _ => N.length - (intOf i).toNat)
                    case atStart => exact ⟨0, rfl, Nat.zero_le _, Below.refl _ _⟩
                    case round =>
                      obtain ⟨k, rfl, hk, hb⟩ := hrel
                      by_cases hkN : k < N.length
                      · obtain ⟨x0, o0, rfl, hx0, hs0⟩ := UT.out (by rw [List.length_map]; omega)
                        obtain ⟨x1, o1, rfl, hx1, hs1⟩ := UB.out (by rw [List.length_map]; omega)
                        obtain ⟨g', rfl, hg', hes⟩ := UE.out (by rw [HLEN.out]; omega)
                        have f0 := hs0 k (by rw [List.length_map]; omega)
                        have f1 := hs1 k (by rw [List.length_map]; omega)
                        obtain ⟨f4, f5, f6⟩ := hes k (by rw [HLEN.out]; omega)
                        rw [HUN.out k hkN] at f4 f5
                        rw [HCN.out k hkN] at f6
                        have hg0 : (N.map (·.1))[k]?.getD ByteArray.empty = (N[k]?.getD (ByteArray.empty, 0)).1 := by simp [hkN]
                        have hg1 : (N.map (·.2))[k]?.getD 0 = (N[k]?.getD (ByteArray.empty, 0)).2 := by simp [hkN]
                        rw [hg0] at f0
                        rw [hg1] at f1
                        obtain ⟨u, hu⟩ : ∃ u, u = N[k]?.getD (ByteArray.empty, 0) := ⟨_, rfl⟩
                        rw [← hu] at f0 f1 f4 f5 f6
                        obtain ⟨T, B⟩ := u
                        simp only at f0 f1 f4 f5
                        obtain ⟨q, hq⟩ : ∃ q, q = cntA ls wT wB m (T, B) n2 := ⟨_, rfl⟩
                        rw [← hq] at f6
                        have HQ := hide hq
                        have hqn : q ≤ n2 := by rw [hq]; exact cntA_le _ _ _ _ _ _
                        have F0 := hide f0
                        have F1 := hide f1
                        have F4 := hide f4
                        have F5 := hide f5
                        have F6 := hide f6
                        have F7 := hide hcp'
                        have r0 := (hb.cell (p := ⟨x0, o0 + k, none⟩) hx0).trans f0
                        have r1 := (hb.cell (p := ⟨x1, o1 + k, none⟩) hx1).trans f1
                        have r4 := (hb.cell (p := ⟨g', k * 3, none⟩) hg').trans f4
                        have r5 := (hb.cell (p := ⟨g', k * 3 + 1, none⟩) hg').trans f5
                        have r7 := (hb.cell (p := ⟨p, 0, none⟩) hp').trans hcp'
                        clear hs0 hs1 hes hg0 hg1 hu hq f0 f1 f4 f5 f6 hcp' HUN HCN
                        have hjw : IntKind.i64.wrap (k : Int) = (k : Int) := by rw [IntKind.wrap_i64]; omega
                        have hj0 : (0 : Int) ≤ (k : Int) := by omega
                        have hkNi : (k : Int) < (N.length : Int) := by omega
                        go_wp2
                        go_quiet (fail)
                        go_wp2
                        clear r0 r1 r4 r5 r7
                        go_loopw [21, 22] (fun vq i wr => ∃ (c : Nat), i = .int .i64 c ∧ vq = .int .i64 (cntA ls wT wB m (T, B) c) ∧ c ≤ n2 ∧ Below wA.heap.size wA wr) (fun _ i _ => n2 - (intOf i).toNat)
                        case atStart => exact ⟨0, rfl, rfl, Nat.zero_le _, below_drewN hb _⟩
                        case round =>
                          obtain ⟨c, rfl, rfl, hc, hb⟩ := hrel
                          by_cases hcl : c < n2
                          · have t0 := (hb.cell (p := ⟨x0, o0 + k, none⟩) hx0).trans F0.out
                            have t1 := (hb.cell (p := ⟨x1, o1 + k, none⟩) hx1).trans F1.out
                            have t2 := (hb.cell (p := ⟨gS, c, none⟩) URS.out.lt).trans (URS.out.cell c (by omega))
                            have t3 := (hb.cell (p := ⟨gE, c, none⟩) URE.out.lt).trans (URE.out.cell c (by omega))
                            have Y0 := hide (U0.out.keep hb)
                            have Y1 := hide (U1.out.keep hb)
                            have hPE := posA_mono ls m c
                            have hEm := posA_le ls m (c + 1)
                            obtain ⟨qc, hqc⟩ : ∃ qc, qc = cntA ls wT wB m (T, B) c := ⟨_, rfl⟩
                            have hqcn : qc ≤ c := by rw [hqc]; exact cntA_le _ _ _ _ _ _
                            obtain ⟨ps, hps⟩ : ∃ x, x = posA ls m c := ⟨_, rfl⟩
                            obtain ⟨pe, hpe⟩ : ∃ x, x = posA ls m (c + 1) := ⟨_, rfl⟩
                            have hnext : cntA ls wT wB m (T, B) (c + 1) = qc + if amongB wT wB ps pe (T, B) = true then 1 else 0 := by rw [hqc, hps, hpe]; rfl
                            simp only [← hps, ← hpe] at t2 t3 hPE hEm
                            rw [← hqc]
                            have HNX := hide hnext
                            clear hps hpe hqc hnext
                            have HAM : Hid (∀ Z, IsStrs Z b0 wT → IsInts Z b1 wB → Calls Try.prog 32 #[.slice b0 n0 d0, .slice b1 n1 d1, .int .i64 ps, .int .i64 pe, .string T, .int .i64 B] Z fun e w' => e = .returned (.bool (amongB wT wB ps pe (T, B))) ∧ w' = Z) := by
                              intro Z h1 h2
                              have h := among_any wT wB _ _ d0 d1 ps pe T B Z h1 h2 (by rw [← HN0.out]; omega) (by rw [← HN1.out]; omega) (by rw [← HN0.out]; omega) (by rw [← HN1.out]; omega) (by omega)
                              rw [← HN0.out, ← HN1.out] at h
                              exact h
                            have hcw : IntKind.i64.wrap (c : Int) = (c : Int) := by rw [IntKind.wrap_i64]; omega
                            have hc0 : (0 : Int) ≤ (c : Int) := by omega
                            have hcni : (c : Int) < (n2 : Int) := by omega
                            cases hr : amongB wT wB ps pe (T, B) with
                            | true =>
                              rw [hr] at HAM HNX
                              clear hr
                              go_wp2
                              go_quiet ((go_at_call 32; refine Calls.quiet_of_same (HAM.out _ ?_ ?_); exact Y0.out; exact Y1.out))
                              go_wp2
                              go_roundw
                              case rel => exact ⟨c + 1, by go_num, by rw [HNX.out]; go_num, by omega, below_drewN hb _⟩
                              case measure => simp [intOf]; omega
                            | false =>
                              rw [hr] at HAM HNX
                              clear hr
                              go_wp2
                              go_quiet ((go_at_call 32; refine Calls.quiet_of_same (HAM.out _ ?_ ?_); exact Y0.out; exact Y1.out))
                              go_wp2
                              go_roundw
                              case rel => exact ⟨c + 1, by go_num, by rw [HNX.out]; rfl, by omega, below_drewN hb _⟩
                              case measure => simp [intOf]; omega
                          · obtain rfl : n2 = c := by omega
                            rw [← HQ.out]
                            have t6 := (hb.cell (p := ⟨g', k * 3 + 2, none⟩) hg').trans F6.out
                            have t7 := (hb.cell (p := ⟨p, 0, none⟩) hp').trans F7.out
                            go_wp2
                            go_roundw
                            case rel => exact ⟨k + 1, by go_num, by omega, hb⟩
                            case measure => simp [intOf]; omega
                      · obtain rfl : N.length = k := by omega
                        go_wp2
                        go_ret
                        exact ⟨rfl, UBW.out.trans (hb.mono UBW.out.size)⟩
end Go.Proofs.Qxb6600999a.W
