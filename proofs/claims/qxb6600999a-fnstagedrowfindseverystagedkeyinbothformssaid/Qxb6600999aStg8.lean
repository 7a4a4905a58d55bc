import Derived.Test.Qxb6600999aStg7
import Derived.Test.Qxb6600999aStg2
import Derived.Lib.Builder
namespace Go.Proofs.Qxb6600999a.W
open Go.RowKit Go.Proofs.Qxb6600999a.Plain
set_option linter.unusedVariables false
attribute [local go_sem ↓] Go.wp_at_zero Go.wp_at_succ

set_option maxRecDepth 100000 in
set_option maxHeartbeats 1600000 in
theorem zzrow_any (f : Nat → Key) (g gT gR n t : Nat) (b : Bool) (pv : Nat → Nat) (w : World) (hS : StagedIn w f g gT gR n b pv) (hK : KeysIn w g f n) (hn : n ≤ 100000) (ht : t < n) (hd : ∀ j, j < t → f j ≠ f t)
    (hwf : ∃ kl, keyOf Try.prog 45 (keyV (f t)) = some kl) (k z : Int) (s : ByteArray) (hf : f t = (k, z, s)) :
    Calls Try.prog 26 #[.pointer (some ⟨gT, 0, none⟩), .agg #[.int .u8 k, .int .i64 z, .string s]] w fun e w' => e = .returned (.pointer (some ⟨pv t, 0, none⟩)) ∧ Below w.heap.size w w' := by
  have HROW : Hid (∀ W, Below w.heap.size w W → Calls Try.prog 36 #[.pointer (some ⟨gT, 0, none⟩), .agg #[.int .u8 k, .int .i64 z, .string s]] W fun e w' => e = .returned (.pointer (some ⟨pv t, 0, none⟩)) ∧ Below W.heap.size W w') :=
    fun W hW => row_any f g gT gR n t b pv W (hS.keep hW) (hK.keep hW) hn ht hd hwf k z s hf
  clear hS hK hd hwf hf
  go_enter Try.func26, Try.ntmps26
  go_wp2_with fail
  refine (HROW.out _ ((Below.refl _ _).alloc (Nat.le_refl _) _)).mono ?_
  rintro e w2 ⟨rfl, hb⟩
  have hb2 : Below w.heap.size w w2 := ((Below.refl _ _).alloc (Nat.le_refl _) _).trans (hb.mono (by simp))
  have HB := hide hb2
  clear hb hb2
  go_wp2
  go_ret
  exact ⟨rfl, HB.out⟩

set_option maxRecDepth 100000 in
set_option maxHeartbeats 3200000 in
theorem law7_big (ss : List ByteArray) (n0 n1 : Nat) (a0 a1 a2 : Option Addr) (c0 c1 c2 : Nat) (w : World) (hS2 : IsStrs w a2 ss)
    (h2 : ss.length ≤ 9223372036854775807) (h0 : n0 ≤ 9223372036854775807) (h1 : n1 ≤ 9223372036854775807)
    (hbig : 4096 < n0 ∨ 4096 < n1 ∨ 4096 < ss.length) :
    Calls Try.prog 7 #[.slice a0 n0 c0, .slice a1 n1 c1, .slice a2 ss.length c2] w fun e w' => e = .returned (.bool true) ∧ Below w.heap.size w w' := by
  have HBY := hide (bytes29_any ss n0 n1 a0 a1 a2 c0 c1 c2 w hS2 h2 h0 h1)
  obtain ⟨n2, hn2⟩ : ∃ n, n = ss.length := ⟨_, rfl⟩
  rw [← hn2] at HBY hbig h2 ⊢
  clear hn2 hS2
  go_enter Try.func7, Try.ntmps7
  go_wp2_with fail
  refine HBY.out.mono ?_
  rintro e w1 ⟨r, rfl, hww⟩
  obtain rfl : w = w1 := hww.symm
  cases r with
  | false =>
    go_wp2
    go_ret
    exact ⟨rfl, Below.refl _ _⟩
  | true =>
    by_cases q0 : 4096 < n0
    · have d0 : decide ((4096 : Int) < (n0 : Int)) = true := by simp; omega
      go_wp2
      go_ret
      exact ⟨rfl, Below.refl _ _⟩
    have d0 : decide ((4096 : Int) < (n0 : Int)) = false := by simp; omega
    by_cases q1 : 4096 < n1
    · have d1 : decide ((4096 : Int) < (n1 : Int)) = true := by simp; omega
      go_wp2
      go_ret
      exact ⟨rfl, Below.refl _ _⟩
    have d1 : decide ((4096 : Int) < (n1 : Int)) = false := by simp; omega
    have q2 : 4096 < n2 := by omega
    have d2 : decide ((4096 : Int) < (n2 : Int)) = true := by simp; omega
    clear hbig
    go_wp2
    go_ret
    exact ⟨rfl, Below.refl _ _⟩

set_option maxRecDepth 100000 in
set_option maxHeartbeats 12800000 in
theorem law7 (ks zs : List Int) (ss : List ByteArray) (a0 a1 a2 : Option Addr) (c0 c1 c2 : Nat) (w : World)
    (hU0 : IsU8s w a0 ks) (hI1 : IsInts w a1 zs) (hS2 : IsStrs w a2 ss)
    (k0 : NilOk a0 ks.length) (k1 : NilOk a1 zs.length) (k2 : NilOk a2 ss.length)
    (l0 : ks.length ≤ 4096) (l1 : zs.length ≤ 4096) (l2 : ss.length ≤ 4096)
    (hwf : ∀ j, j < ks.length → j < zs.length → j < ss.length → ∃ kl, keyOf Try.prog 45 (keyV (keyAt ks zs ss j)) = some kl) :
    Calls Try.prog 7 #[.slice a0 ks.length c0, .slice a1 zs.length c1, .slice a2 ss.length c2] w fun e w' => e = .returned (.bool true) ∧ Below w.heap.size w w' := by
  have HBY := hide (bytes29_any ss ks.length zs.length a0 a1 a2 c0 c1 c2 w hS2 (by omega) (by omega) (by omega))
  have HB2 := hide (strBytes_any ss a2 c2 w hS2 l2)
  have HDI := hide (fun n m0 m1 m2 => distinct_any ks zs ss a0 a1 a2 c0 c1 c2 n w hU0 hI1 hS2 (by omega) (by omega) (by omega) m0 m1 m2)
  have HC0 := hide (fun W h => cloneB_any ks a0 c0 W h (by omega) k0)
  have HC1 := hide (fun W h => cloneL_any zs a1 c1 W h (by omega) k1)
  have HC2 := hide (fun W h => cloneS_any ss a2 c2 W h (by omega) k2)
  have HKS := hide (fun (b0 b1 b2 : Option Addr) (d0 d1 d2 n : Nat) W (h0 : IsU8s W b0 ks) (h1 : IsInts W b1 zs) (h2 : IsStrs W b2 ss) m0 m1 m2 => keys_any ks zs ss b0 b1 b2 d0 d1 d2 n W h0 h1 h2 (by omega) (by omega) (by omega) m0 m1 m2)
  have HPN : Hid (∀ W a, (binOp .neq 47 (.pointer (some a)) (.pointer (some a))).run Try.prog W = .ok (.bool false) W) := by
    obtain ⟨j, hj⟩ : ∃ j, Try.prog.info? 76 = some j := Option.isSome_iff_exists.1 (by kernel_rfl)
    exact fun W a => Go.Lib.run_neq_ptr_same W a Try.underlying47 hj
  have HWF := hide hwf
  obtain ⟨n0, hn0⟩ : ∃ n, n = ks.length := ⟨_, rfl⟩
  obtain ⟨n1, hn1⟩ : ∃ n, n = zs.length := ⟨_, rfl⟩
  obtain ⟨n2, hn2⟩ : ∃ n, n = ss.length := ⟨_, rfl⟩
  rw [← hn0] at l0 HBY HC0 HDI HKS HWF ⊢
  rw [← hn1] at l1 HBY HC1 HDI HKS HWF ⊢
  rw [← hn2] at l2 HBY HC2 HB2 HDI HKS HWF ⊢
  have HN0 := hide hn0
  have HN1 := hide hn1
  have HN2 := hide hn2
  have J0 := hide hU0
  have J1 := hide hI1
  have J2 := hide hS2
  clear hn0 hn1 hn2 hU0 hI1 hS2 k0 k1 k2 hwf
  have q0 : decide ((4096 : Int) < (n0 : Int)) = false := by simp; omega
  have q1 : decide ((4096 : Int) < (n1 : Int)) = false := by simp; omega
  have q2 : decide ((4096 : Int) < (n2 : Int)) = false := by simp; omega
  go_enter Try.func7, Try.ntmps7
  go_wp2_with fail
  refine HBY.out.mono ?_
  rintro e w1 ⟨r, rfl, hww⟩
  obtain rfl : w = w1 := hww.symm
  cases r with
  | false =>
    go_wp2
    go_ret
    exact ⟨rfl, Below.refl _ _⟩
  | true =>
    go_wp2_with fail
    refine HB2.out.mono ?_
    rintro e w1 ⟨r1, rfl, hr1, hww⟩
    obtain rfl : w = w1 := hww.symm
    clear hww
    by_cases hsum : 1048576 < n0 + 8 * n1 + r1
    · go_wp2
      go_ret
      exact ⟨rfl, Below.refl _ _⟩
    have hsm : decide ((1048576 : Int) < (n0 : Int) + 8 * (n1 : Int) + (r1 : Int)) = false := by simp; omega
    go_wp2_with fail
    refine (min_nat n1 n2 _).mono ?_
    rintro e w6 ⟨rfl, hww⟩
    obtain rfl : w = w6 := hww.symm
    go_wp2_with fail
    refine (min_nat n0 (min n1 n2) _).mono ?_
    rintro e w6 ⟨rfl, hww⟩
    obtain rfl : w = w6 := hww.symm
    obtain ⟨n, hn⟩ : ∃ n, n = min n0 (min n1 n2) := ⟨_, rfl⟩
    have hnn0 : n ≤ n0 := by omega
    have hnn1 : n ≤ n1 := by omega
    have hnn2 : n ≤ n2 := by omega
    rw [← hn]
    clear hn hww
    go_wp2_with fail
    refine (HDI.out n hnn0 hnn1 hnn2).mono ?_
    rintro e wd ⟨r, rfl, hdist, hbd⟩
    have HDD := hide hdist
    have HBD := hide hbd
    clear hdist hbd
    cases r with
    | false =>
      go_wp2
      go_ret
      exact ⟨rfl, HBD.out⟩
    | true =>
      go_wp2_with fail
      refine (HC0.out _ (J0.out.keep HBD.out)).mono ?_
      rintro e w2 ⟨b0, d0, rfl, hA, hb⟩
      rw [← HN0.out]
      have K0 := hide hA
      have hb2 : Below w.heap.size w w2 := HBD.out.trans (hb.mono HBD.out.size)
      clear hA hb
      go_wp2_with fail
      refine (HC1.out _ (J1.out.keep hb2)).mono ?_
      rintro e w3 ⟨b1, d1, rfl, hA, hb⟩
      rw [← HN1.out]
      have K0' := hide (K0.out.keep hb)
      have K1 := hide hA
      have hb3 : Below w.heap.size w w3 := hb2.trans (hb.mono hb2.size)
      clear hA hb K0
      go_wp2_with fail
      refine (HC2.out _ (J2.out.keep hb3)).mono ?_
      rintro e w4 ⟨b2, d2, rfl, hA, hb⟩
      rw [← HN2.out]
      have K0 := hide (K0'.out.keep hb)
      have K1' := hide (K1.out.keep hb)
      have K2 := hide hA
      have hb4 : Below w.heap.size w w4 := hb3.trans (hb.mono hb3.size)
      clear hA hb K0' K1
      go_wp2_with fail
      refine (HKS.out b0 b1 b2 d0 d1 d2 n _ K0.out K1'.out K2.out hnn0 hnn1 hnn2).mono ?_
      rintro e w5 ⟨g, rfl, hKI, hb⟩
      have hb5 : Below w.heap.size w w5 := hb4.trans (hb.mono hb4.size)
      have HD : Hid (∀ x y, x < y → y < n → keyAt ks zs ss x ≠ keyAt ks zs ss y) := by first | exact HDD.out rfl | exact HDD.out trivial
      have HW : Hid (∀ j, j < n → ∃ kl, keyOf Try.prog 45 (keyV (keyAt ks zs ss j)) = some kl) := fun j hj => HWF.out j (by omega) (by omega) (by omega)
      have HKI := hide hKI
      clear hKI hb K0 K1' K2 hb2 hb3 hb4 HDD HWF HBY HB2 HDI HC0 HC1 HC2 HKS J0 J1 J2
      go_wp2_with fail
      refine (staged_any _ g n false _ HKI.out (by omega) HD.out HW.out).mono ?_
      rintro e w6 ⟨gT, gR, pv, rfl, hSI, hb⟩
      have hb6 : Below w.heap.size w w6 := hb5.trans (hb.mono hb5.size)
      have HK6 := hide (HKI.out.keep hb)
      have HS6 := hide hSI
      clear hSI hb HKI hb5
      go_wp2_with fail
      refine (staged_any _ g n true _ HK6.out (by omega) HD.out HW.out).mono ?_
      rintro e w7 ⟨gT2, gR2, pv2, rfl, hSI, hb⟩
      have HBW := hide (hb6.trans (hb.mono hb6.size))
      have HK7 := hide (HK6.out.keep hb)
      have HS7 := hide (HS6.out.keep hb)
      have HT7 := hide hSI
      clear hSI hb HK6 HS6 hb6
      go_wp2
      go_loopw [13] (fun i wr => ∃ (j : Nat), i = .int .i64 j ∧ j ≤ n ∧ Below w7.heap.size w7 wr) (fun i _ => n - (intOf i).toNat)
      case atStart => exact ⟨0, rfl, Nat.zero_le _, Below.refl _ _⟩
      case round =>
        obtain ⟨j, rfl, hj, hb⟩ := hrel
        by_cases hjn : j < n
        · obtain ⟨c0', c1', c2'⟩ := HK7.out.2 j hjn
          have hgk := HK7.out.1
          have hgR : gR < w7.heap.size := HS7.out.2.1
          have hgR2 : gR2 < w7.heap.size := HT7.out.2.1
          have f0 := (hb.cell (p := ⟨g, j * 3, none⟩) hgk).trans c0'
          have f1 := (hb.cell (p := ⟨g, j * 3 + 1, none⟩) hgk).trans c1'
          have f2 := (hb.cell (p := ⟨g, j * 3 + 2, none⟩) hgk).trans c2'
          have f3 := (hb.cell (p := ⟨gR, j, none⟩) hgR).trans (HS7.out.2.2.1 j hjn)
          have f4 := (hb.cell (p := ⟨gR2, j, none⟩) hgR2).trans (HT7.out.2.2.1 j hjn)
          obtain ⟨k, hk⟩ : ∃ k, k = (keyAt ks zs ss j).1 := ⟨_, rfl⟩
          obtain ⟨z, hz⟩ : ∃ z, z = (keyAt ks zs ss j).2.1 := ⟨_, rfl⟩
          obtain ⟨s, hs⟩ : ∃ s, s = (keyAt ks zs ss j).2.2 := ⟨_, rfl⟩
          have hkey : keyAt ks zs ss j = (k, z, s) := by rw [hk, hz, hs]
          rw [← hk] at f0
          rw [← hz] at f1
          rw [← hs] at f2
          have HZ1 : Hid (∀ W, Below w7.heap.size w7 W → Calls Try.prog 26 #[.pointer (some ⟨gT, 0, none⟩), .agg #[.int .u8 k, .int .i64 z, .string s]] W fun e w' => e = .returned (.pointer (some ⟨pv j, 0, none⟩)) ∧ Below W.heap.size W w') :=
            fun W hW => zzrow_any _ g gT gR n j false pv W (HS7.out.keep hW) (HK7.out.keep hW) (by omega) hjn (fun i hi => HD.out i j hi hjn) (HW.out j hjn) k z s hkey
          have HZ2 : Hid (∀ W, Below w7.heap.size w7 W → Calls Try.prog 26 #[.pointer (some ⟨gT2, 0, none⟩), .agg #[.int .u8 k, .int .i64 z, .string s]] W fun e w' => e = .returned (.pointer (some ⟨pv2 j, 0, none⟩)) ∧ Below W.heap.size W w') :=
            fun W hW => zzrow_any _ g gT2 gR2 n j true pv2 W (HT7.out.keep hW) (HK7.out.keep hW) (by omega) hjn (fun i hi => HD.out i j hi hjn) (HW.out j hjn) k z s hkey
          have hsz := hb.size
          have hgk' : g < wr.heap.size := by omega
          have hgR' : gR < wr.heap.size := by omega
          have hgR2' : gR2 < wr.heap.size := by omega
          have hj0 : (0 : Int) ≤ (j : Int) := by omega
          have hjn' : (j : Int) < (n : Int) := by omega
          have hjw : IntKind.i64.wrap (j : Int) = (j : Int) := by rw [IntKind.wrap_i64]; omega
          have hpn := HPN.out
          have HBR := hide hb
          clear c0' c1' c2' hk hz hs hkey hb
          go_wp2
          go_region_held3 (fun w' => w'.cell? ⟨g, j * 3, none⟩ = some (.int .u8 k) ∧ w'.cell? ⟨g, j * 3 + 1, none⟩ = some (.int .i64 z) ∧ w'.cell? ⟨g, j * 3 + 2, none⟩ = some (.string s) ∧ w'.cell? ⟨gR, j, none⟩ = some (.pointer (some ⟨pv j, 0, none⟩))) (first | go_keep | (go_split_ands; refine ⟨?_, ?_, ?_, ?_⟩ <;> (rw [hbU.cell (by simp; omega)]; assumption))) ((go_at_call 26; refine (HZ1.out _ (by exact HBR.out.drew)).mono ?_; rintro e wU ⟨rfl, hbU⟩))
          have hbU' : Below wr.heap.size wr wU := ((Below.refl _ _).drew).trans hbU
          have t0 := (hbU'.cell (p := ⟨g, j * 3, none⟩) hgk').trans f0
          have t1 := (hbU'.cell (p := ⟨g, j * 3 + 1, none⟩) hgk').trans f1
          have t2 := (hbU'.cell (p := ⟨g, j * 3 + 2, none⟩) hgk').trans f2
          have t4 := (hbU'.cell (p := ⟨gR2, j, none⟩) hgR2').trans f4
          have HB7U := hide (HBR.out.trans (hbU'.mono HBR.out.size))
          have hszU := hbU'.size
          have hgkU : g < wU.heap.size := by omega
          have hgR2U : gR2 < wU.heap.size := by omega
          clear hbU hbU' f0 f1 f2 f3 f4
          go_wp2
          go_region_held3 (fun w' => w'.cell? ⟨g, j * 3, none⟩ = some (.int .u8 k) ∧ w'.cell? ⟨g, j * 3 + 1, none⟩ = some (.int .i64 z) ∧ w'.cell? ⟨g, j * 3 + 2, none⟩ = some (.string s) ∧ w'.cell? ⟨gR2, j, none⟩ = some (.pointer (some ⟨pv2 j, 0, none⟩))) (first | go_keep | (go_split_ands; refine ⟨?_, ?_, ?_, ?_⟩ <;> (rw [hbV.cell (by simp; omega)]; assumption))) ((go_at_call 26; refine (HZ2.out _ (by exact HB7U.out.drew)).mono ?_; rintro e wV ⟨rfl, hbV⟩))
          have HBV := hide ((HB7U.out.drew).trans (hbV.mono HB7U.out.size))
          clear hbV t0 t1 t2 t4
          go_wp2
          go_roundw
          case rel => exact ⟨j + 1, by go_num, by omega, HBV.out⟩
          case measure => simp [intOf]; omega
        · obtain rfl : n = j := by omega
          go_wp2
          go_ret
          exact ⟨rfl, HBW.out.trans (hb.mono HBW.out.size)⟩
end Go.Proofs.Qxb6600999a.W
