import Derived.Test.Qxb6600999aStg0
import Derived.Deep.RegionHeld3
namespace Go.Proofs.Qxb6600999a.W
open Go.RowKit Go.Proofs.Qxb6600999a.Plain
set_option linter.unusedVariables false
attribute [local go_sem ↓] Go.wp_at_zero Go.wp_at_succ

theorem info45 : (Try.prog.info? 45).map (fun i => (i.zero, i.size, i.bytes)) = some (some (.agg #[.int .u8 0, .int .i64 0, .string ByteArray.empty]), 3, 32) := by kernel_rfl

/-- The keys lie at a place. -/
def KeysIn (w : World) (g : Nat) (f : Nat → Key) (n : Nat) : Prop := g < w.heap.size ∧ ∀ j, j < n →
    w.cell? ⟨g, j * 3, none⟩ = some (.int .u8 (f j).1) ∧ w.cell? ⟨g, j * 3 + 1, none⟩ = some (.int .i64 (f j).2.1) ∧ w.cell? ⟨g, j * 3 + 2, none⟩ = some (.string (f j).2.2)
theorem KeysIn.keep {w w' : World} {g n : Nat} {f : Nat → Key} (h : KeysIn w g f n) (hb : Below w.heap.size w w') : KeysIn w' g f n :=
  ⟨Nat.lt_of_lt_of_le h.1 hb.size, fun j hj => ⟨(hb.cell (p := ⟨g, j * 3, none⟩) h.1).trans (h.2 j hj).1, (hb.cell (p := ⟨g, j * 3 + 1, none⟩) h.1).trans (h.2 j hj).2.1, (hb.cell (p := ⟨g, j * 3 + 2, none⟩) h.1).trans (h.2 j hj).2.2⟩⟩
def KeysAns (f : Nat → Key) (n : Nat) (w : World) (e : Ending) (w' : World) : Prop := ∃ g, e = .returned (.slice (some ⟨g, 0, none⟩) n n) ∧ KeysIn w' g f n ∧ Below w.heap.size w w'

set_option maxRecDepth 100000 in
set_option maxHeartbeats 3200000 in
theorem keys_any (ks zs : List Int) (ss : List ByteArray) (a0 a1 a2 : Option Addr) (c0 c1 c2 n : Nat) (w : World) (h0 : IsU8s w a0 ks) (h1 : IsInts w a1 zs) (h2 : IsStrs w a2 ss)
    (l0 : ks.length ≤ 100000) (l1 : zs.length ≤ 100000) (l2 : ss.length ≤ 100000) (m0 : n ≤ ks.length) (m1 : n ≤ zs.length) (m2 : n ≤ ss.length) :
    Calls Try.prog 27 #[.slice a0 ks.length c0, .slice a1 zs.length c1, .slice a2 ss.length c2, .int .i64 n] w (KeysAns (keyAt ks zs ss) n w) := by
  obtain ⟨i0, hi, hz0, hz1, hz2⟩ := info_parts info45
  have HI2 := hide hz2
  clear hz2
  obtain ⟨n0, hn0⟩ : ∃ n, n = ks.length := ⟨_, rfl⟩
  obtain ⟨n1, hn1⟩ : ∃ n, n = zs.length := ⟨_, rfl⟩
  obtain ⟨n2, hn2⟩ : ∃ n, n = ss.length := ⟨_, rfl⟩
  rw [← hn0] at l0 m0 ⊢
  rw [← hn1] at l1 m1 ⊢
  rw [← hn2] at l2 m2 ⊢
  have HN0 := hide hn0
  have HN1 := hide hn1
  have HN2 := hide hn2
  have H0 := hide h0
  have H1 := hide h1
  have H2 := hide h2
  clear hn0 hn1 hn2 h0 h1 h2
  go_enter Try.func27, Try.ntmps27
  go_wp2_with (at_make; refine wpList_make_full _ rfl _ _ 49 rfl w.heap.size 45 i0 _ 3 Try.underlying49 hi hz0 hz1 _ _ _ _ n rfl rfl rfl rfl (by rw [HI2.out]; omega) (by unfold maxLen; omega) (Nat.le_refl _) ?_)
  intro w1 hown hgrow
  have hrow := RowV.made hown
  have hb1 : Below w.heap.size w w1 := (Below.refl _ _).grown hgrow (Nat.le_refl _) (fun k h => by cases h)
  clear hown hgrow
  obtain ⟨g, hg⟩ : ∃ g, g = w.heap.size := ⟨_, rfl⟩
  have HG := hide hg
  rw [← hg] at hrow hb1 ⊢
  clear hg
  go_wp2
  go_loopw [10] (fun i wr => ∃ (j : Nat) (c : Nat → Value), i = .int .i64 j ∧ j ≤ n ∧ RowV wr 45 g (n * 3) c ∧ Hid (∀ i, i < j → c (i * 3) = .int .u8 (keyAt ks zs ss i).1 ∧ c (i * 3 + 1) = .int .i64 (keyAt ks zs ss i).2.1 ∧ c (i * 3 + 2) = .string (keyAt ks zs ss i).2.2) ∧ Below g w wr) (fun i _ => n - (intOf i).toNat)
  case atStart => exact ⟨0, _, rfl, Nat.zero_le _, hrow, hide (fun i hi => by omega), hb1⟩
  case round =>
    obtain ⟨j, c, rfl, hj, hR, HC, hb⟩ := hrel
    by_cases hjn : j < n
    · obtain ⟨x0, o0, rfl, hx0, hs0⟩ := H0.out (by rw [← HN0.out]; omega)
      obtain ⟨x1, o1, rfl, hx1, hs1⟩ := H1.out (by rw [← HN1.out]; omega)
      obtain ⟨x2, o2, rfl, hx2, hs2⟩ := H2.out (by rw [← HN2.out]; omega)
      rw [← HG.out] at hx0 hx1 hx2
      have f0 := (hb.cell (p := ⟨x0, o0 + j, none⟩) hx0).trans (hs0 j (by rw [← HN0.out]; omega))
      have f1 := (hb.cell (p := ⟨x1, o1 + j, none⟩) hx1).trans (hs1 j (by rw [← HN1.out]; omega))
      have f2 := (hb.cell (p := ⟨x2, o2 + j, none⟩) hx2).trans (hs2 j (by rw [← HN2.out]; omega))
      obtain ⟨k, hk⟩ : ∃ k, k = ks[j]?.getD 0 := ⟨_, rfl⟩
      obtain ⟨z, hz⟩ : ∃ z, z = zs[j]?.getD 0 := ⟨_, rfl⟩
      obtain ⟨s, hs⟩ : ∃ s, s = ss[j]?.getD ByteArray.empty := ⟨_, rfl⟩
      rw [← hk] at f0
      rw [← hz] at f1
      rw [← hs] at f2
      have KA : Hid (keyAt ks zs ss j = (k, z, s)) := by unfold keyAt; rw [← hk, ← hz, ← hs]; rfl
      clear hs0 hs1 hs2 hk hz hs
      have hgl : g < wr.heap.size := hR.lt
      have hx0r : x0 < wr.heap.size := by omega
      have hx1r : x1 < wr.heap.size := by omega
      have hx2r : x2 < wr.heap.size := by omega
      have hj0 : (0 : Int) ≤ (j : Int) := by omega
      have hj1 : (j : Int) < (n0 : Int) := by omega
      have hj2 : (j : Int) < (n1 : Int) := by omega
      have hj3 : (j : Int) < (n2 : Int) := by omega
      have hj4 : (j : Int) < (n : Int) := by omega
      have hjw : IntKind.i64.wrap (j : Int) = (j : Int) := by rw [IntKind.wrap_i64]; omega
      have e0 : ¬ g = x0 := by omega
      have e1 : ¬ g = x1 := by omega
      have e2 : ¬ g = x2 := by omega
      have e0' : ¬ x0 = g := by omega
      have e1' : ¬ x1 = g := by omega
      have e2' : ¬ x2 = g := by omega
      have HR := hide hR
      clear hR
      go_wp2
      go_region_held3 (fun w' => w'.cell? ⟨x0, o0 + j, none⟩ = some (.int .u8 k) ∧ w'.cell? ⟨x1, o1 + j, none⟩ = some (.int .i64 z) ∧ w'.cell? ⟨x2, o2 + j, none⟩ = some (.string s)) (first | go_keep | (go_split_ands; refine ⟨?_, ?_, ?_⟩ <;> (rw [hbU.cell (by simp; omega)]; assumption))) ((go_at_call 25; refine (value_any _ _ _ _).mono ?_; rintro e wU ⟨rfl, hbU⟩; have hRU : RowV wU 45 g (n * 3) c := RowV.keep (w := wr.drew) HR.out hbU; have q0 := hRU.cell (j * 3) (by omega); have q1 := hRU.cell (j * 3 + 1) (by omega); have q2 := hRU.cell (j * 3 + 2) (by omega); have q3 := hRU.free (j * 3); have q4 := hRU.free (j * 3 + 1); have q5 := hRU.free (j * 3 + 2)))
      go_wp2
      go_roundw
      case rel =>
        have hbW : Below g w wU := (hb.drew).trans (hbU.mono (Nat.le_of_lt hgl))
        refine ⟨j + 1, _, by go_num, by omega, ((hRU.set (j * 3) (.int .u8 k)).set (j * 3 + 1) (.int .i64 z)).set (j * 3 + 2) (.string s), hide (fun i hi => ?_), ((hbW.setCell (Nat.le_refl _) _).setCell (Nat.le_refl _) _).setCell (Nat.le_refl _) _⟩
        have hx := KA.out
        by_cases e : i = j
        · subst e
          rw [hx]
          refine ⟨?_, ?_, ?_⟩ <;> simp
        · have h := HC.out i (by omega)
          refine ⟨?_, ?_, ?_⟩
          · rw [← h.1, if_neg (by omega), if_neg (by omega), if_neg (by omega)]
          · rw [← h.2.1, if_neg (by omega), if_neg (by omega), if_neg (by omega)]
          · rw [← h.2.2, if_neg (by omega), if_neg (by omega), if_neg (by omega)]
      case measure => simp [intOf]; omega
    · obtain rfl : n = j := by omega
      go_wp2
      go_ret
      refine ⟨g, rfl, ⟨hR.lt, fun j hj => ?_⟩, by rw [← HG.out]; exact hb⟩
      rw [hR.cell _ (by omega), hR.cell _ (by omega), hR.cell _ (by omega), (HC.out j hj).1, (HC.out j hj).2.1, (HC.out j hj).2.2]
      exact ⟨rfl, rfl, rfl⟩

set_option maxRecDepth 100000 in
set_option maxHeartbeats 1600000 in
/-- 'slices.Index' at the keys: the first place of the key. -/
theorem index_any (f : Nat → Key) (g n t : Nat) (w : World) (hK : KeysIn w g f n) (hn : n ≤ 100000) (ht : t < n) (hd : ∀ j, j < t → f j ≠ f t) (k z : Int) (s : ByteArray) (hf : f t = (k, z, s)) :
    Calls Try.prog 41 #[.slice (some ⟨g, 0, none⟩) n n, .agg #[.int .u8 k, .int .i64 z, .string s]] w fun e w' => e = .returned (.int .i64 t) ∧ Below w.heap.size w w' := by
  have HK := hide hK
  have HD := hide hd
  have HF := hide hf
  have hg := hK.1
  clear hK hd hf
  go_enter Try.func41, Try.ntmps41
  go_wp2
  have hbB : ∀ o, Below w.heap.size w (w.alloc o) := fun o => (Below.refl _ _).alloc (Nat.le_refl _) _
  have hq0 : (w.alloc (.cells #[.int .u8 k, .int .i64 z, .string s] 45)).cell? ⟨w.heap.size, 0, none⟩ = some (.int .u8 k) := by simp
  have hq1 : (w.alloc (.cells #[.int .u8 k, .int .i64 z, .string s] 45)).cell? ⟨w.heap.size, 1, none⟩ = some (.int .i64 z) := by simp
  have hq2 : (w.alloc (.cells #[.int .u8 k, .int .i64 z, .string s] 45)).cell? ⟨w.heap.size, 2, none⟩ = some (.string s) := by simp
  obtain ⟨p, hp⟩ : ∃ p, p = w.heap.size := ⟨_, rfl⟩
  rw [← hp] at hq0 hq1 hq2 hg ⊢
  have HP := hide hp
  clear hp
  go_loopw [8] (fun i wr => ∃ j : Nat, i = .int .i64 j ∧ j ≤ t ∧ wr.cell? ⟨p, 0, none⟩ = some (.int .u8 k) ∧ wr.cell? ⟨p, 1, none⟩ = some (.int .i64 z) ∧ wr.cell? ⟨p, 2, none⟩ = some (.string s) ∧ Below w.heap.size w wr) (fun i _ => n - (intOf i).toNat)
  case atStart => exact ⟨0, rfl, Nat.zero_le _, hq0, hq1, hq2, hbB _⟩
  case round =>
    obtain ⟨j, rfl, hj, p0, p1, p2, hb⟩ := hrel
    obtain ⟨c0, c1, c2⟩ := HK.out.2 j (by omega)
    have hgw : g < w.heap.size := HK.out.1
    have d0 := (hb.cell (p := ⟨g, j * 3, none⟩) hgw).trans c0
    have d1 := (hb.cell (p := ⟨g, j * 3 + 1, none⟩) hgw).trans c1
    have d2 := (hb.cell (p := ⟨g, j * 3 + 2, none⟩) hgw).trans c2
    obtain ⟨k', hk'⟩ : ∃ k, k = (f j).1 := ⟨_, rfl⟩
    obtain ⟨z', hz'⟩ : ∃ z, z = (f j).2.1 := ⟨_, rfl⟩
    obtain ⟨s', hs'⟩ : ∃ s, s = (f j).2.2 := ⟨_, rfl⟩
    rw [← hk'] at d0
    rw [← hz'] at d1
    rw [← hs'] at d2
    have HJ : Hid (f j = (k', z', s')) := by rw [hk', hz', hs']; rfl
    have hj0 : (0 : Int) ≤ (j : Int) := by omega
    have hjn : (j : Int) < (n : Int) := by omega
    clear c0 c1 c2 hk' hz' hs' hq0 hq1 hq2 hbB
    by_cases hjt : j = t
    · subst hjt
      obtain ⟨rfl, rfl, rfl⟩ : k' = k ∧ z' = z ∧ s' = s := by
        have h := HJ.out.symm.trans HF.out
        simp only [Prod.mk.injEq] at h
        exact h
      go_wp2
      go_quiet (fail)
      go_wp2
      go_ret
      exact ⟨rfl, below_drewN hb _⟩
    · have hne : (k', z', s') ≠ (k, z, s) := by
        rw [← HJ.out, ← HF.out]; exact HD.out j (by omega)
      by_cases e1 : k = k'
      · subst e1
        by_cases e2 : z = z'
        · subst e2
          have e3 : ¬ s = s' := fun e => hne (by rw [e])
          have e4 := toList_ne e3
          have e5 : (s.toList == s'.toList) = false := by simp [e4]
          have e6 : decide (s.toList = s'.toList) = false := by simp [e4]
          clear hne e3
          go_wp2
          go_quiet (fail)
          go_wp2
          go_roundw
          case rel => exact ⟨j + 1, by go_num, by omega, p0, p1, p2, below_drewN hb _⟩
          case measure => simp [intOf]; omega
        · clear hne
          go_wp2
          go_quiet (fail)
          go_wp2
          go_roundw
          case rel => exact ⟨j + 1, by go_num, by omega, p0, p1, p2, below_drewN hb _⟩
          case measure => simp [intOf]; omega
      · clear hne
        go_wp2
        go_quiet (fail)
        go_wp2
        go_roundw
        case rel => exact ⟨j + 1, by go_num, by omega, p0, p1, p2, below_drewN hb _⟩
        case measure => simp [intOf]; omega
end Go.Proofs.Qxb6600999a.W
