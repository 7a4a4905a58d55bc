import Derived.Test.Qxb6603358aGrow
namespace Go.Proofs.Qxb6603358a.W
open Go.RowKit
set_option linter.unusedVariables false

/-- What the rounds of the script keep: buf and anchor on one row, shadow on another, both rows alike. -/
def Kept (B M : Nat) (buf anchor shadow : Value) (w wr : World) : Prop :=
  Below B w wr ∧ M ≤ 65536 ∧
  ((M = 0 ∧ buf = .slice none 0 0 ∧ anchor = .slice none 0 0 ∧ shadow = .slice none 0 0) ∨
   (∃ g h len c, 0 < M ∧ buf = .slice (some ⟨g, 0, none⟩) len M ∧ anchor = .slice (some ⟨g, 0, none⟩) M M ∧ shadow = .slice (some ⟨h, 0, none⟩) M M ∧ B ≤ g ∧ B ≤ h ∧ g ≠ h ∧ Row wr g M c ∧ Row wr h M c))

set_option maxRecDepth 100000 in
set_option maxHeartbeats 1600000 in
theorem law_walk (b off len cap : Nat) (zs : List Int) (w : World) (hlen : len ≤ 4096) (hl : len ≤ zs.length) (hb : b < w.heap.size)
    (hc : ∀ j, j < len → w.cell? ⟨b, off + j, none⟩ = some (.int .i64 (zs.getD j 0))) :
    Calls Try.prog 3 #[.slice (some ⟨b, off, none⟩) len cap] w fun e w' => e = .returned (.bool true) ∧ Below w.heap.size w w' := by
  obtain ⟨i0, hi, hz0, hz1, hz2⟩ := info_parts info5
  have H2 := hide hz2
  have HCL := hide hc
  clear hz2 hc
  have hd17 : decide ((4096 : Int) < (len : Int)) = false := by simp; omega
  go_enter Try.func3, Try.ntmps3
  go_wp2
  go_loop [3] (fun i => ∃ k : Nat, i = .int .i64 k ∧ k ≤ len ∧ Hid (∀ j, j < k → 0 ≤ zs.getD j 0 ∧ zs.getD j 0 ≤ 65536)) (fun i => len - (intOf i).toNat)
  case atStart => exact ⟨0, rfl, Nat.zero_le _, hide (fun j hj => by omega)⟩
  case round =>
    obtain ⟨k, rfl, hk, HB⟩ := hrel
    by_cases hkl : k < len
    · have hck := HCL.out k hkl
      obtain ⟨z, hz⟩ : ∃ z, z = zs.getD k 0 := ⟨_, rfl⟩
      rw [← hz] at hck
      have HZ := hide hz
      clear hz
      by_cases hneg : z < 0
      · have hd : decide (z < 0) = true := by simpa using hneg
        go_wp2
        go_ret
        exact ⟨rfl, Below.refl _ _⟩
      by_cases hbig : 65536 < z
      · have hd : decide (z < 0) = false := by simpa using hneg
        have hd2 : decide (65536 < z) = true := by simpa using hbig
        go_wp2
        go_ret
        exact ⟨rfl, Below.refl _ _⟩
      have hd : decide (z < 0) = false := by simpa using hneg
      have hd2 : decide (65536 < z) = false := by simpa using hbig
      go_wp2
      go_round
      case rel =>
        refine ⟨k + 1, by go_num, by omega, hide (fun j hj => ?_)⟩
        by_cases e : j = k
        · rw [e, ← HZ.out]; omega
        · exact HB.out j (by omega)
      case measure => simp [intOf]; omega
    · obtain rfl : len = k := by omega
      go_wp2
      go_loopw [4, 5, 6, 7, 8] (fun buf anchor shadow m st wr => ∃ k M : Nat, st = .int .i64 k ∧ m = .int .i64 M ∧ k ≤ len ∧ Kept w.heap.size M buf anchor shadow w wr) (fun _ _ _ _ st _ => len - (intOf st).toNat)
      case atStart => exact ⟨0, 0, rfl, rfl, Nat.zero_le _, Below.refl _ _, by omega, Or.inl ⟨rfl, rfl, rfl, rfl⟩⟩
      case round =>
        obtain ⟨k, M, rfl, rfl, hk2, hbel, hM, hkept⟩ := hrel
        by_cases hkl2 : k < len
        · obtain ⟨n, hn⟩ : ∃ n : Nat, zs.getD k 0 = (n : Int) := ⟨(zs.getD k 0).toNat, by have := HB.out k hkl2; omega⟩
          have hn6 : n ≤ 65536 := by have := HB.out k hkl2; omega
          have hcz : wr.cell? ⟨b, off + k, none⟩ = some (.int .i64 (n : Int)) := by rw [← hn]; exact (hbel.cell (p := ⟨b, off + k, none⟩) hb).trans (HCL.out k hkl2)
          clear hn
          by_cases hnM : M < n
          · rcases hkept with ⟨hM0, hbf, han, hsh⟩ | ⟨g, h, lb, c, hMp, hbf, han, hsh, hg, hh, hgh, hRg, hRh⟩
            · subst hM0
              rw [hbf, han, hsh]
              go_wp2_with (go_at_call 5; refine (grow_new _ _ _ n hnM hn6 _).mono ?_; rintro e w1 ⟨rfl, hrow, hgrow⟩)
              go_quiet (fail)
              go_wp2_with (at_make; refine wpList_make_full _ rfl _ _ 24 rfl w.heap.size 5 i0 (.int .u8 0) 1 Try.underlying24 hi hz0 hz1 _ _ _ _ n rfl rfl rfl rfl (by rw [H2.out]; omega) (by unfold maxLen; omega) (by have := hbel.size; have := hgrow.size; simp; omega) ?_)
              intro w2 hown2 hgrow2
              have hR2 : Row w2 w1.heap.size n (fun _ => 0) := Row.made hown2
              have hR1 : Row w2 wr.heap.size n (fun _ => 0) := (hrow.drewN _).grown hgrow2
              have hb1 := hbel.grown hgrow hbel.size (fun k h => by cases h)
              have hb2 : Below w.heap.size w w2 := (below_drewN hb1 _).grown hgrow2 hb1.size (fun k h => by cases h)
              have hgh2 : wr.heap.size ≠ w1.heap.size := by have := hrow.lt; omega
              have hg2 : w.heap.size ≤ wr.heap.size := hbel.size
              have hh2 : w.heap.size ≤ w1.heap.size := hb1.size
              clear hown2 hgrow2 hgrow hrow hb1
              generalize wr.heap.size = gg at *
              generalize w1.heap.size = hh2' at *
              go_wp2
              go_loopw [11] (fun j wx => ∃ (t : Nat) (c : Nat → Int), j = .int .i64 t ∧ t ≤ n ∧ Row wx gg n c ∧ Row wx hh2' n c ∧ Below w.heap.size w wx) (fun j _ => n - (intOf j).toNat)
              case atStart => exact ⟨0, _, rfl, Nat.zero_le _, hR1, hR2, hb2⟩
              case round =>
                obtain ⟨t, c', rfl, ht, hQ1, hQ2, hbx⟩ := hrel
                by_cases htn : t < n
                · have htN : t < n := by omega
                  have hcg := hQ1.cell t htN
                  have hch := hQ2.cell t htN
                  have hfg := hQ1.free t
                  have hfh := hQ2.free t
                  have hti : (t : Int) < (n : Int) := by omega
                  have htM : (t : Int) < (n : Int) := by omega
                  obtain ⟨cv, hcv⟩ : ∃ cv, cv = c' t := ⟨_, rfl⟩
                  rw [← hcv] at hcg hch
                  clear hcv
                  have hself : (cv != cv) = false := by simp
                  go_wp2
                  go_quiet (fail)
                  go_wp2
                  go_roundw
                  case rel => exact ⟨t + 1, _, by go_num, by omega, ((hQ1.drewN _).set t _ htN).other _ _ hgh2, ((hQ2.drewN _).other _ _ (Ne.symm hgh2)).set t _ htN, ((below_drewN hbx _).setCell hg2 _).setCell hh2 _⟩
                  case measure => simp [intOf]; omega
                · go_wp2
                  go_roundw
                  case rel => exact ⟨k + 1, n, by go_num, rfl, by omega, hbx, by omega, Or.inr ⟨gg, hh2', n, c', by omega, rfl, rfl, rfl, hg2, hh2, hgh2, hQ1, hQ2⟩⟩
                  case measure => simp [intOf]; omega
            · have hlt := hRg.lt
              have hMi : (0 : Int) < (M : Int) := by omega
              have hni : (0 : Int) < (n : Int) := by omega
              have hnp : 0 < n := by omega
              have hdM : decide ((0 : Int) < (M : Int)) = true := by simpa using hMi
              have hne : ¬ wr.heap.size = g := by omega
              rw [hbf, han, hsh]
              go_wp2_with (go_at_call 5; refine (grow_new _ _ _ n hnM hn6 _).mono ?_; rintro e w1 ⟨rfl, hrow, hgrow⟩)
              have heq : ∀ nq, (binOp .eql 26 (.pointer (some ⟨wr.heap.size, 0, none⟩)) (.pointer (some ⟨g, 0, none⟩))).run Try.prog (w1.drewN nq) = .ok (.bool false) (w1.drewN nq) := fun nq => eql_apart (hrow.drewN nq) ((hRg.grown hgrow).drewN nq) hne
              go_quiet (fail)
              go_wp2_with (at_make; refine wpList_make_full _ rfl _ _ 24 rfl w.heap.size 5 i0 (.int .u8 0) 1 Try.underlying24 hi hz0 hz1 _ _ _ _ n rfl rfl rfl rfl (by rw [H2.out]; omega) (by unfold maxLen; omega) (by have := hbel.size; have := hgrow.size; simp; omega) ?_)
              intro w2 hown2 hgrow2
              have hR2 : Row w2 w1.heap.size n (fun _ => 0) := Row.made hown2
              have hR1 : Row w2 wr.heap.size n (fun _ => 0) := (hrow.drewN _).grown hgrow2
              have hb1 := hbel.grown hgrow hbel.size (fun k h => by cases h)
              have hb2 : Below w.heap.size w w2 := (below_drewN hb1 _).grown hgrow2 hb1.size (fun k h => by cases h)
              have hgh2 : wr.heap.size ≠ w1.heap.size := by have := hrow.lt; omega
              have hg2 : w.heap.size ≤ wr.heap.size := hbel.size
              have hh2 : w.heap.size ≤ w1.heap.size := hb1.size
              clear hown2 hgrow2 hgrow hrow hb1
              generalize wr.heap.size = gg at *
              generalize w1.heap.size = hh2' at *
              go_wp2
              go_loopw [11] (fun j wx => ∃ (t : Nat) (c : Nat → Int), j = .int .i64 t ∧ t ≤ n ∧ Row wx gg n c ∧ Row wx hh2' n c ∧ Below w.heap.size w wx) (fun j _ => n - (intOf j).toNat)
              case atStart => exact ⟨0, _, rfl, Nat.zero_le _, hR1, hR2, hb2⟩
              case round =>
                obtain ⟨t, c', rfl, ht, hQ1, hQ2, hbx⟩ := hrel
                by_cases htn : t < n
                · have htN : t < n := by omega
                  have hcg := hQ1.cell t htN
                  have hch := hQ2.cell t htN
                  have hfg := hQ1.free t
                  have hfh := hQ2.free t
                  have hti : (t : Int) < (n : Int) := by omega
                  have htM : (t : Int) < (n : Int) := by omega
                  obtain ⟨cv, hcv⟩ : ∃ cv, cv = c' t := ⟨_, rfl⟩
                  rw [← hcv] at hcg hch
                  clear hcv
                  have hself : (cv != cv) = false := by simp
                  go_wp2
                  go_quiet (fail)
                  go_wp2
                  go_roundw
                  case rel => exact ⟨t + 1, _, by go_num, by omega, ((hQ1.drewN _).set t _ htN).other _ _ hgh2, ((hQ2.drewN _).other _ _ (Ne.symm hgh2)).set t _ htN, ((below_drewN hbx _).setCell hg2 _).setCell hh2 _⟩
                  case measure => simp [intOf]; omega
                · go_wp2
                  go_roundw
                  case rel => exact ⟨k + 1, n, by go_num, rfl, by omega, hbx, by omega, Or.inr ⟨gg, hh2', n, c', by omega, rfl, rfl, rfl, hg2, hh2, hgh2, hQ1, hQ2⟩⟩
                  case measure => simp [intOf]; omega
          · rcases hkept with ⟨hM0, hbf, han, hsh⟩ | ⟨g, h, lb, c, hMp, hbf, han, hsh, hg, hh, hgh, hRg, hRh⟩
            · subst hM0
              obtain rfl : n = 0 := by omega
              rw [hbf, han, hsh]
              go_wp2_with (go_at_call 5; refine (grow_nil _).mono ?_; rintro e w1 ⟨rfl, rfl⟩)
              go_quiet (fail)
              go_wp2
              refine wp_loop_rounds 1 ?_
              rw [rounds_succ]
              go_wp2
              go_roundw
              case rel => exact ⟨k + 1, 0, by go_num, rfl, by omega, below_drewN hbel _, by omega, Or.inl ⟨rfl, rfl, rfl, rfl⟩⟩
              case measure => simp [intOf]; omega
            · have hMi : (0 : Int) < (M : Int) := by omega
              have hnM' : ¬ (M : Int) < (n : Int) := by omega
              have hneq : ∀ nq, (binOp .neq 26 (.pointer (some ⟨g, 0, none⟩)) (.pointer (some ⟨g, 0, none⟩))).run Try.prog (wr.drewN nq) = .ok (.bool false) (wr.drewN nq) := fun nq => neq_same _ _
              rw [hbf, han, hsh]
              by_cases hn0 : 0 < n
              · have hni : (0 : Int) < (n : Int) := by omega
                have hdn : decide ((0 : Int) < (n : Int)) = true := by simpa using hni
                go_wp2_with (go_at_call 5; refine (grow_same _ _ _ n (by omega) hn6 _).mono ?_; rintro e w1 ⟨rfl, hww⟩; obtain rfl : wr = w1 := hww.symm)
                go_quiet (fail)
                go_wp2
                go_loopw [11] (fun j wx => ∃ (t : Nat) (c : Nat → Int), j = .int .i64 t ∧ t ≤ n ∧ Row wx g M c ∧ Row wx h M c ∧ Below w.heap.size w wx) (fun j _ => n - (intOf j).toNat)
                case atStart => exact ⟨0, _, rfl, Nat.zero_le _, hRg, hRh, below_drewN hbel _⟩
                case round =>
                  obtain ⟨t, c', rfl, ht, hQ1, hQ2, hbx⟩ := hrel
                  by_cases htn : t < n
                  · have htN : t < M := by omega
                    have hcg := hQ1.cell t htN
                    have hch := hQ2.cell t htN
                    have hfg := hQ1.free t
                    have hfh := hQ2.free t
                    have hti : (t : Int) < (n : Int) := by omega
                    have htM : (t : Int) < (M : Int) := by omega
                    obtain ⟨cv, hcv⟩ : ∃ cv, cv = c' t := ⟨_, rfl⟩
                    rw [← hcv] at hcg hch
                    clear hcv
                    have hself : (cv != cv) = false := by simp
                    go_wp2
                    go_quiet (fail)
                    go_wp2
                    go_roundw
                    case rel => exact ⟨t + 1, _, by go_num, by omega, ((hQ1.drewN _).set t _ htN).other _ _ hgh, ((hQ2.drewN _).other _ _ (Ne.symm hgh)).set t _ htN, ((below_drewN hbx _).setCell hg _).setCell hh _⟩
                    case measure => simp [intOf]; omega
                  · go_wp2
                    go_roundw
                    case rel => exact ⟨k + 1, M, by go_num, rfl, by omega, hbx, hM, Or.inr ⟨g, h, n, c', hMp, rfl, rfl, rfl, hg, hh, hgh, hQ1, hQ2⟩⟩
                    case measure => simp [intOf]; omega
              · obtain rfl : n = 0 := by omega
                go_wp2_with (go_at_call 5; refine (grow_same _ _ _ 0 (by omega) (by omega) _).mono ?_; rintro e w1 ⟨rfl, hww⟩; obtain rfl : wr = w1 := hww.symm)
                go_quiet (fail)
                go_wp2
                refine wp_loop_rounds 1 ?_
                rw [rounds_succ]
                go_wp2
                go_roundw
                case rel => exact ⟨k + 1, M, by go_num, rfl, by omega, below_drewN hbel _, hM, Or.inr ⟨g, h, 0, c, hMp, rfl, rfl, rfl, hg, hh, hgh, hRg, hRh⟩⟩
                case measure => simp [intOf]; omega
        · go_wp2
          go_ret
          exact ⟨rfl, hbel⟩
end Go.Proofs.Qxb6603358a.W
