import Derived.Test.Qxb6600999aStg5
namespace Go.Proofs.Qxb6600999a.W
open Go.RowKit Go.Proofs.Qxb6600999a.Plain
set_option linter.unusedVariables false
attribute [local go_sem ↓] Go.wp_at_zero Go.wp_at_succ

theorem run_makeMap77 (n : Int) (w : World) : (Instr.makeMap 77 (some (.int .i64 n))).run Try.prog w = .ok (.map (some w.heap.size)) (w.alloc (.map #[] 0)) := by
  simp [Instr.makeMap, run_underlying Try.underlying77, asInt, asIntOf, Result.andThen]

/-- A staged that lies in memory. -/
def StagedIn (w : World) (f : Nat → Key) (g gT gR n : Nat) (b : Bool) (pv : Nat → Nat) : Prop := gT < w.heap.size ∧ gR < w.heap.size ∧ (∀ j, j < n → w.cell? ⟨gR, j, none⟩ = some (.pointer (some ⟨pv j, 0, none⟩))) ∧
    w.cell? ⟨gT, 0, none⟩ = some (.slice (some ⟨g, 0, none⟩) n n) ∧ w.cell? ⟨gT, 1, none⟩ = some (.slice (some ⟨gR, 0, none⟩) n n) ∧
    ((b = false ∧ w.cell? ⟨gT, 2, none⟩ = some (.map none)) ∨ (b = true ∧ ∃ gM, w.cell? ⟨gT, 2, none⟩ = some (.map (some gM)) ∧ Places w f gM n n))
theorem StagedIn.keep {w w' : World} {f : Nat → Key} {g gT gR n : Nat} {b : Bool} {pv : Nat → Nat} (h : StagedIn w f g gT gR n b pv) (hb : Below w.heap.size w w') : StagedIn w' f g gT gR n b pv := by
  obtain ⟨h1, h2, h3, h4, h5, h6⟩ := h
  refine ⟨Nat.lt_of_lt_of_le h1 hb.size, Nat.lt_of_lt_of_le h2 hb.size, fun j hj => (hb.cell (p := ⟨gR, j, none⟩) h2).trans (h3 j hj), (hb.cell (p := ⟨gT, 0, none⟩) h1).trans h4, (hb.cell (p := ⟨gT, 1, none⟩) h1).trans h5, ?_⟩
  rcases h6 with ⟨e, h6⟩ | ⟨e, gM, h6, h7⟩
  · exact .inl ⟨e, (hb.cell (p := ⟨gT, 2, none⟩) h1).trans h6⟩
  · exact .inr ⟨e, gM, (hb.cell (p := ⟨gT, 2, none⟩) h1).trans h6, h7.keep hb⟩
def StagedAns (f : Nat → Key) (g n : Nat) (b : Bool) (w : World) (e : Ending) (w' : World) : Prop := ∃ (gT gR : Nat) (pv : Nat → Nat),
    e = .returned (.tuple #[.pointer (some ⟨gT, 0, none⟩), .slice (some ⟨gR, 0, none⟩) n n]) ∧ StagedIn w' f g gT gR n b pv ∧ Below w.heap.size w w'

set_option maxRecDepth 100000 in
set_option maxHeartbeats 3200000 in
theorem staged_any (f : Nat → Key) (g n : Nat) (b : Bool) (w : World) (hK : KeysIn w g f n) (hn : n ≤ 100000) (hd : ∀ x y, x < y → y < n → f x ≠ f y) (hwf : ∀ j, j < n → ∃ kl, keyOf Try.prog 45 (keyV (f j)) = some kl) :
    Calls Try.prog 28 #[.slice (some ⟨g, 0, none⟩) n n, .bool b] w (StagedAns f g n b w) := by
  obtain ⟨i0, hi, hz0, hz1, hz2⟩ := info_parts info47
  have HI2 := hide hz2
  have HK := hide hK
  have HD := hide hd
  have HWF := hide hwf
  have hmm := run_makeMap77 n
  clear hz2 hK hd hwf
  go_enter Try.func28, Try.ntmps28
  go_wp2_with (at_make; refine wpList_make_full _ rfl _ _ 52 rfl w.heap.size 47 i0 _ 1 Try.underlying52 hi hz0 hz1 _ _ _ _ n rfl rfl rfl rfl (by rw [HI2.out]; omega) (by unfold maxLen; omega) (Nat.le_refl _) ?_)
  intro w1 hown hgrow
  have hrow := RowV.made hown
  have hb1 : Below w.heap.size w w1 := (Below.refl _ _).grown hgrow (Nat.le_refl _) (fun k h => by cases h)
  clear hown hgrow
  obtain ⟨gR, hgR⟩ : ∃ g, g = w.heap.size := ⟨_, rfl⟩
  have HGR := hide hgR
  rw [← hgR] at hrow hb1 ⊢
  clear hgR
  go_wp2
  go_loopw [7] (fun i wr => ∃ (j : Nat) (c : Nat → Value), i = .int .i64 j ∧ j ≤ n ∧ RowV wr 47 gR (n * 1) c ∧ Hid (∀ i, i < j → ∃ q, c i = .pointer (some ⟨q, 0, none⟩)) ∧ Below gR w wr) (fun i _ => n - (intOf i).toNat)
  case atStart => exact ⟨0, _, rfl, Nat.zero_le _, hrow, hide (fun i hi => by omega), hb1⟩
  case round =>
    obtain ⟨j, c, rfl, hj, hR, HC, hb⟩ := hrel
    by_cases hjn : j < n
    · have f3 := hR.cell j (by omega)
      have f4 := hR.free j
      have hgl := hR.lt
      generalize c j = cj at f3
      go_wp2
      go_roundw
      case rel =>
        refine ⟨j + 1, _, by go_num, by omega, (hR.set j _).keep ((Below.refl _ _).alloc (Nat.le_refl _) _), hide (fun i hi => ?_), (hb.setCell (Nat.le_refl _) _).alloc (by rw [World.size_setCell]; exact Nat.le_of_lt hgl) _⟩
        by_cases e : i = j
        · exact ⟨wr.heap.size, by simp [e]⟩
        · simp only [e, if_false]; exact HC.out i (by omega)
      case measure => simp [intOf]; omega
    · obtain rfl : n = j := by omega
      rename World => wB
      have hgl := hR.lt
      have hbw : Below w.heap.size w wB := by rw [← HGR.out]; exact hb
      have HKr := hide (HK.out.keep hbw)
      have HBW := hide hbw
      obtain ⟨pv, hpv⟩ : ∃ pv : Nat → Nat, ∀ i, i < n → wB.cell? ⟨gR, i, none⟩ = some (.pointer (some ⟨pv i, 0, none⟩)) := by
        refine ⟨fun i => match c i with | .pointer (some x) => x.block | _ => 0, fun i hi => ?_⟩
        obtain ⟨q, hq⟩ := HC.out i hi
        simp [hR.cell i (by omega), hq]
      have HPV := hide hpv
      clear hpv hrow hb1 hb hbw HC HK
      cases b with
      | false =>
        go_wp2_with fail
        refine (make_any _ _ _ _ _ _ _ _).mono ?_
        rintro e w2 ⟨rfl, h1, h2, h3, h4, h5⟩
        have HFIN : Hid (StagedIn w2 f g wB.heap.size gR n false pv) := ⟨h1, Nat.lt_of_lt_of_le hgl h5.size, fun j hj => (h5.cell (p := ⟨gR, j, none⟩) hgl).trans (HPV.out j hj), h2, h3, .inl ⟨rfl, h4⟩⟩
        have HB2 := hide (HBW.out.trans (h5.mono HBW.out.size))
        clear h1 h2 h3 h4 h5
        go_wp2
        go_ret2
        exact ⟨_, _, _, rfl, HFIN.out, HB2.out⟩
      | true =>
        go_wp2
        have hst := Places.start wB f n
        have hbM : Below wB.heap.size wB (wB.alloc (.map #[] 0)) := (Below.refl _ _).alloc (Nat.le_refl _) _
        obtain ⟨gM, hgM⟩ : ∃ g, g = wB.heap.size := ⟨_, rfl⟩
        have HGM := hide hgM
        rw [← hgM] at hst hbM hgl ⊢
        clear hgM hmm
        have hgk : g < gM := by rw [HGM.out]; exact HKr.out.1
        go_loopw [9] (fun i wx => ∃ (j : Nat), i = .int .i64 j ∧ j ≤ n ∧ Hid (Places wx f gM n j) ∧ Below gM wB wx) (fun i _ => n - (intOf i).toNat)
        case atStart => exact ⟨0, rfl, Nat.zero_le _, hide hst, hbM⟩
        case round =>
          obtain ⟨j, rfl, hj, HPL, hb⟩ := hrel
          by_cases hjn : j < n
          · obtain ⟨D, hown, hat⟩ := HPL.out
            have HAT := hide hat
            obtain ⟨kl, hkl⟩ := HWF.out j hjn
            obtain ⟨d0, d1, d2⟩ := HKr.out.2 j hjn
            have f0 := (hb.cell (p := ⟨g, j * 3, none⟩) hgk).trans d0
            have f1 := (hb.cell (p := ⟨g, j * 3 + 1, none⟩) hgk).trans d1
            have f2 := (hb.cell (p := ⟨g, j * 3 + 2, none⟩) hgk).trans d2
            have HKL := hide hkl
            unfold keyV at hkl
            obtain ⟨k, hk⟩ : ∃ k, k = (f j).1 := ⟨_, rfl⟩
            obtain ⟨z, hz⟩ : ∃ z, z = (f j).2.1 := ⟨_, rfl⟩
            obtain ⟨s, hs⟩ : ∃ s, s = (f j).2.2 := ⟨_, rfl⟩
            rw [← hk] at f0
            rw [← hz] at f1
            rw [← hs] at f2
            rw [← hk, ← hz, ← hs] at hkl
            have HKK := hide hkl
            have hsz := hb.size
            have HIM := hide hown.isMap
            clear hk hz hs d0 d1 d2 hkl hat
            go_wp2_with (at_mapUpdate; refine wpList_mapUpdate_own _ rfl _ _ _ 77 rfl 45 3 law45 Try.underlying77 _ gM j D rfl hown (by unfold maxLen; omega) _ _ kl rfl rfl HKK.out _ [] (plainElem_int Try.underlying3 (WalkArith.wf_i64 (by omega))) ?_)
            intro w3 hown3 hgrow3
            have hst3 := Places.step (w := w3) (n := n) HIM.out HAT.out HKL.out (fun i hi => HD.out i j hi hjn) hown3
            have hb3 : Below gM wB w3 := hb.grown hgrow3 (Nat.le_of_lt hown.lt) (fun k h => by cases h; exact Nat.le_refl _)
            have HST3 := hide hst3
            clear hown3 hgrow3 hst3 hown f0 f1 f2 HAT HPL
            go_wp2
            go_roundw
            case rel => exact ⟨j + 1, by go_num, by omega, HST3, hb3⟩
            case measure => simp [intOf]; omega
          · obtain rfl : n = j := by omega
            have hbx : Below wB.heap.size wB wr := by rw [← HGM.out]; exact hb
            have hgR' : gR < wB.heap.size := by rw [← HGM.out]; exact hgl
            have HBX := hide hbx
            clear hbx hb hst hbM
            go_wp2_with fail
            refine (make_any _ _ _ _ _ _ _ _).mono ?_
            rintro e w2 ⟨rfl, h1, h2, h3, h4, h5⟩
            have hb52 : Below wB.heap.size wB w2 := HBX.out.trans (h5.mono HBX.out.size)
            have hfin := (show StagedIn w2 f g _ gR n true pv from ⟨h1, Nat.lt_of_lt_of_le hgR' hb52.size, fun j hj => (hb52.cell (p := ⟨gR, j, none⟩) hgR').trans (HPV.out j hj), h2, h3, .inr ⟨rfl, gM, h4, HPL.out.keep h5⟩⟩)
            have HFIN := hide hfin
            have HB2 := hide (HBW.out.trans (hb52.mono HBW.out.size))
            clear h1 h2 h3 h4 h5 hfin hb52
            go_wp2
            go_ret2
            exact ⟨_, _, _, rfl, HFIN.out, HB2.out⟩
end Go.Proofs.Qxb6600999a.W
