import Derived.Test.Qxb6600999aAddW
import Derived.Deep.CutRange
import Derived.Deep.RegionLaw
namespace Go.Proofs.Qxb6600999a.W
open Go.RowKit Go.Proofs.Qxb6600999a.Plain
set_option linter.unusedVariables false
attribute [local go_sem ↓] Go.wp_at_zero Go.wp_at_succ

/-- Go's '+1' on an int. -/
def inc1 (c : Int) : Int := wrap64 (c + 1)
/-- What Add leaves. -/
def Added (w : World) (p : Nat) (v0 : Value) (S : List En) (e : Ending) (w' : World) : Prop :=
  e = .returned (.tuple #[]) ∧ ∃ v', w'.heap[p]? = some (.cells #[v'] 61 (0, 0)) ∧ w'.ownsRow 0 65 3 v' S.length (entCells S) ∧ Lies w v0 v' ∧ Fr w p v0 w'

set_option maxRecDepth 100000 in
set_option maxHeartbeats 1600000 in
theorem add_any (S0 : List En) (W : List U) (aw : Option Addr) (capw p : Nat) (v0 : Value) (w : World) (hW : IsWrites w aw W) (hWb : ∀ b off, aw = some ⟨b, off, none⟩ → b ≠ p ∧ some b ≠ v0.ownBlock) (hP : w.heap[p]? = some (.cells #[v0] 61 (0, 0))) (hS : w.ownsRow 0 65 3 v0 S0.length (entCells S0)) (hn : S0.length ≤ 100000) (hm : W.length ≤ 100000) :
    Calls Try.prog 33 #[.pointer (some ⟨p, 0, none⟩), .slice aw W.length capw] w (Added w p v0 (runA inc1 S0 W).1) := by
  obtain ⟨m, hmm⟩ : ∃ m, m = W.length := ⟨_, rfl⟩
  obtain ⟨st, hst⟩ : ∃ st, st = S0.length := ⟨_, rfl⟩
  have hp : p < w.heap.size := (Array.getElem?_eq_some_iff.1 hP).1
  have hcp : w.cell? ⟨p, 0, none⟩ = some v0 := by rw [cell_of_row w p 0 #[v0] 61 (0, 0) hP]; rfl
  obtain ⟨a0, c0, hv0, hE0⟩ := ents_of hS
  rw [← hst] at hv0 hn
  rw [← hmm] at hm ⊢
  obtain ⟨i0, hi, hz0, hz1, hz2⟩ := info_parts info65
  have H2 := hide hz2
  clear hz2
  obtain ⟨i3, hi3, hz30, hz31, hz32⟩ := info_parts info3
  have H23 := hide hz32
  clear hz32
  have HM := hide hmm
  have HST := hide hst
  have HW := hide hW
  have HWb := hide hWb
  have HP := hide hP
  have HS := hide hS
  have HV := hide hv0
  clear hmm hst hW hWb hP hS hE0
  rw [hv0] at hcp
  clear hv0
  go_enter Try.func33, Try.ntmps33
  go_wp2
  go_loopw [5, 16] (fun vc i wr => ∃ (k : Nat) (v : Value), i = .int .i64 k ∧ k ≤ m ∧ wr.heap[p]? = some (.cells #[v] 61 (0, 0)) ∧ wr.ownsRow 0 65 3 v (runA inc1 S0 (W.take k)).1.length (entCells (runA inc1 S0 (W.take k)).1) ∧
      wr.ownsRow w.heap.size 3 1 vc (runA inc1 S0 (W.take k)).2.length (natCells (runA inc1 S0 (W.take k)).2) ∧ Lies w v0 v ∧ Fr w p v0 wr) (fun _ i _ => m - (intOf i).toNat)
  case atStart => exact ⟨0, v0, rfl, Nat.zero_le _, HP.out, HS.out, World.ownsRow_nil _ _ _ _, Or.inl rfl, Fr.refl _ _ _⟩
  case round =>
    obtain ⟨k, v, rfl, hk, hPr, hSr, hCr, hL, hF⟩ := hrel
    by_cases hkm : k < m
    · obtain ⟨b, off, rfl, hbl, hcs⟩ := HW.out (by rw [← HM.out]; omega)
      obtain ⟨hbp, hbv⟩ := HWb.out b off rfl
      have hblk : wr.heap[b]? = w.heap[b]? := hF.block b hbl hbp hbv
      have hcell : ∀ o, wr.cell? ⟨b, o, none⟩ = w.cell? ⟨b, o, none⟩ := fun o => World.cell?_of_block (a := ⟨b, o, none⟩) hblk
      obtain ⟨d0, d1, d2, d3, d4, d5, d6, d7, d8⟩ := hcs k (by rw [← HM.out]; exact hkm)
      obtain ⟨T, hT⟩ : ∃ T, T = (W[k]?.getD (ByteArray.empty, 0)).1 := ⟨_, rfl⟩
      obtain ⟨B, hB⟩ : ∃ B, B = (W[k]?.getD (ByteArray.empty, 0)).2 := ⟨_, rfl⟩
      rw [← hT, ← hcell] at d0
      rw [← hB, ← hcell] at d1
      rw [← hcell] at d2 d3 d4 d5 d6 d7 d8
      have HU : Hid (W[k]?.getD (ByteArray.empty, 0) = (T, B)) := by rw [hT, hB]; rfl
      have HCELL := hide hcell
      have HCS := hide hcs
      have hblr : b < wr.heap.size := Nat.lt_of_lt_of_le hbl hF.size
      have hpr : p < wr.heap.size := Nat.lt_of_lt_of_le hp hF.size
      clear hT hB hcell hcs hblk
      go_wp2_with fail
      refine (unit_any _ _ _ _ _ _ _ _ _ _ _ _ _ _).mono ?_
      rintro e w1 ⟨rfl, hb1⟩
      have hzq : wr.heap.size + 1 ≤ w1.heap.size := by have := hb1.size; simpa using this
      go_wp2_with fail
      obtain ⟨wA, hwA⟩ : ∃ wA, wA = w1.alloc (Obj.cells #[Value.string T, Value.int IntKind.i64 B] 63) := ⟨_, rfl⟩
      rw [← hwA]
      have hbA : Below wr.heap.size wr wA := by
        rw [hwA]
        exact ((((Below.refl _ _).alloc (Nat.le_refl _) _).trans (hb1.mono (by simp))).alloc (by omega) _)
      have hq0 : wA.cell? ⟨w1.heap.size, 0, none⟩ = some (.string T) := by rw [hwA]; simp
      have hq1 : wA.cell? ⟨w1.heap.size, 1, none⟩ = some (.int .i64 B) := by rw [hwA]; simp
      have hqlt : w1.heap.size < wA.heap.size := by rw [hwA]; simp
      have hqb : Hid (wA.heap[w1.heap.size]? = some (.cells #[.string T, .int .i64 B] 63 (0, 0))) := by rw [hwA]; exact heap_alloc_new _ _
      generalize w1.heap.size = q at *
      clear hb1 hwA
      go_cut [34] from 23 to 34 (fun r wx => r = .bool (decide (0 < k ∧ W[k - 1]?.getD (ByteArray.empty, 0) = (T, B))) ∧ Below wA.heap.size wA wx)
      case first =>
        by_cases hk0 : 0 < k
        · obtain ⟨k', rfl⟩ : ∃ k', k = k' + 1 := ⟨k - 1, by omega⟩
          obtain ⟨g0, g1, g2, g3, g4, g5, g6, g7, g8⟩ := HCS.out k' (by rw [← HM.out]; omega)
          obtain ⟨T', hT'⟩ : ∃ T, T = (W[k']?.getD (ByteArray.empty, 0)).1 := ⟨_, rfl⟩
          obtain ⟨B', hB'⟩ : ∃ B, B = (W[k']?.getD (ByteArray.empty, 0)).2 := ⟨_, rfl⟩
          rw [← hT'] at g0
          rw [← hB'] at g1
          have HU' : Hid (W[k' + 1 - 1]?.getD (ByteArray.empty, 0) = (T', B')) := by rw [hT', hB']; rfl
          have hcA : ∀ o, wA.cell? ⟨b, o, none⟩ = w.cell? ⟨b, o, none⟩ := fun o => (hbA.cell (p := ⟨b, o, none⟩) hblr).trans (HCELL.out o)
          rw [← hcA] at g0 g1 g2 g3 g4 g5 g6 g7 g8
          have hblA : b < wA.heap.size := Nat.lt_of_lt_of_le hblr hbA.size
          clear hT' hB' hcA d0 d1 d2 d3 d4 d5 d6 d7 d8
          have hki : (k' : Int) < (m : Int) := by omega
          have hkp : (0 : Int) ≤ (k' : Int) := by omega
          have hkw : IntKind.i64.wrap (k' : Int) = (k' : Int) := by rw [IntKind.wrap_i64]; omega
          have hkw2 : IntKind.i64.wrap ((k' : Int) + 1 - 1) = (k' : Int) := by rw [IntKind.wrap_i64]; omega
          have hdk : decide ((0 : Int) < (k' : Int) + 1) = true := decide_eq_true (by omega)
          by_cases heT : T = T'
          · subst heT
            by_cases heB : B = B'
            · subst heB
              have HR : Hid (decide (0 < k' + 1 ∧ W[k' + 1 - 1]?.getD (ByteArray.empty, 0) = (T, B)) = true) := decide_eq_true ⟨by omega, HU'.out⟩
              go_region_held3 (fun w' => w'.cell? ⟨q, 0, none⟩ = some (.string T) ∧ w'.cell? ⟨q, 1, none⟩ = some (.int .i64 B) ∧ w'.cell? ⟨b, off + k' * 9, none⟩ = some (.string T) ∧ w'.cell? ⟨b, off + k' * 9 + 1, none⟩ = some (.int .i64 B) ∧ w'.cell? ⟨b, off + k' * 9 + 2, none⟩ = some (.int .u8 0) ∧ w'.cell? ⟨b, off + k' * 9 + 3, none⟩ = some (.int .i64 0) ∧ w'.cell? ⟨b, off + k' * 9 + 4, none⟩ = some (.string ByteArray.empty) ∧ w'.cell? ⟨b, off + k' * 9 + 5, none⟩ = some (.slice none 0 0) ∧ w'.cell? ⟨b, off + k' * 9 + 6, none⟩ = some (.slice none 0 0) ∧ w'.cell? ⟨b, off + k' * 9 + 7, none⟩ = some (.bool false) ∧ w'.cell? ⟨b, off + k' * 9 + 8, none⟩ = some (.int .i64 0)) (first | go_keep | (go_split_ands; refine ⟨?_, ?_, ?_, ?_, ?_, ?_, ?_, ?_, ?_, ?_, ?_⟩ <;> (rw [hbU.cell (by simp; omega)]; assumption))) ((go_at_call 38; refine (unit_any _ _ _ _ _ _ _ _ _ _ _ _ _ _).mono ?_; rintro e wU ⟨rfl, hbU⟩))
              all_goals go_wp2
              go_meet
              case rel => exact ⟨congrArg Value.bool HR.out.symm, ((Below.refl _ _).drew).trans hbU⟩
            · have HR : Hid (decide (0 < k' + 1 ∧ W[k' + 1 - 1]?.getD (ByteArray.empty, 0) = (T, B)) = false) := decide_eq_false (fun h => by have h2 := h.2; rw [HU'.out] at h2; cases h2; exact heB rfl)
              go_region_held3 (fun w' => w'.cell? ⟨q, 0, none⟩ = some (.string T) ∧ w'.cell? ⟨q, 1, none⟩ = some (.int .i64 B) ∧ w'.cell? ⟨b, off + k' * 9, none⟩ = some (.string T) ∧ w'.cell? ⟨b, off + k' * 9 + 1, none⟩ = some (.int .i64 B') ∧ w'.cell? ⟨b, off + k' * 9 + 2, none⟩ = some (.int .u8 0) ∧ w'.cell? ⟨b, off + k' * 9 + 3, none⟩ = some (.int .i64 0) ∧ w'.cell? ⟨b, off + k' * 9 + 4, none⟩ = some (.string ByteArray.empty) ∧ w'.cell? ⟨b, off + k' * 9 + 5, none⟩ = some (.slice none 0 0) ∧ w'.cell? ⟨b, off + k' * 9 + 6, none⟩ = some (.slice none 0 0) ∧ w'.cell? ⟨b, off + k' * 9 + 7, none⟩ = some (.bool false) ∧ w'.cell? ⟨b, off + k' * 9 + 8, none⟩ = some (.int .i64 0)) (first | go_keep | (go_split_ands; refine ⟨?_, ?_, ?_, ?_, ?_, ?_, ?_, ?_, ?_, ?_, ?_⟩ <;> (rw [hbU.cell (by simp; omega)]; assumption))) ((go_at_call 38; refine (unit_any _ _ _ _ _ _ _ _ _ _ _ _ _ _).mono ?_; rintro e wU ⟨rfl, hbU⟩))
              all_goals go_wp2
              go_meet
              case rel => exact ⟨congrArg Value.bool HR.out.symm, ((Below.refl _ _).drew).trans hbU⟩
          · have heT' := toList_ne heT
            have HR : Hid (decide (0 < k' + 1 ∧ W[k' + 1 - 1]?.getD (ByteArray.empty, 0) = (T, B)) = false) := decide_eq_false (fun h => by have h2 := h.2; rw [HU'.out] at h2; cases h2; exact heT rfl)
            clear heT
            go_region_held3 (fun w' => w'.cell? ⟨q, 0, none⟩ = some (.string T) ∧ w'.cell? ⟨q, 1, none⟩ = some (.int .i64 B) ∧ w'.cell? ⟨b, off + k' * 9, none⟩ = some (.string T') ∧ w'.cell? ⟨b, off + k' * 9 + 1, none⟩ = some (.int .i64 B') ∧ w'.cell? ⟨b, off + k' * 9 + 2, none⟩ = some (.int .u8 0) ∧ w'.cell? ⟨b, off + k' * 9 + 3, none⟩ = some (.int .i64 0) ∧ w'.cell? ⟨b, off + k' * 9 + 4, none⟩ = some (.string ByteArray.empty) ∧ w'.cell? ⟨b, off + k' * 9 + 5, none⟩ = some (.slice none 0 0) ∧ w'.cell? ⟨b, off + k' * 9 + 6, none⟩ = some (.slice none 0 0) ∧ w'.cell? ⟨b, off + k' * 9 + 7, none⟩ = some (.bool false) ∧ w'.cell? ⟨b, off + k' * 9 + 8, none⟩ = some (.int .i64 0)) (first | go_keep | (go_split_ands; refine ⟨?_, ?_, ?_, ?_, ?_, ?_, ?_, ?_, ?_, ?_, ?_⟩ <;> (rw [hbU.cell (by simp; omega)]; assumption))) ((go_at_call 38; refine (unit_any _ _ _ _ _ _ _ _ _ _ _ _ _ _).mono ?_; rintro e wU ⟨rfl, hbU⟩))
            all_goals go_wp2
            go_meet
            case rel => exact ⟨congrArg Value.bool HR.out.symm, ((Below.refl _ _).drew).trans hbU⟩
        · obtain rfl : k = 0 := by omega
          go_quiet (fail)
          go_wp2
          go_meet
          case rel => exact ⟨rfl, below_drewN (Below.refl _ _) _⟩
      case rest =>
        obtain ⟨hr34, hbx⟩ := hcut
        have hbc : Below wr.heap.size wr wc := hbA.trans (hbx.mono hbA.size)
        have hFc := hF.below hbc
        have hPc : wc.heap[p]? = some (.cells #[v] 61 (0, 0)) := (hbc.block p hpr).trans hPr
        have hSc := ownsRow_below hSr hbc
        have hCc := ownsRow_below hCr hbc
        have hc0 := (hbx.cell (p := ⟨q, 0, none⟩) hqlt).trans hq0
        have hc1 := (hbx.cell (p := ⟨q, 1, none⟩) hqlt).trans hq1
        have hqbc : Hid (wc.heap[q]? = some (.cells #[.string T, .int .i64 B] 63 (0, 0))) := (hbx.block q hqlt).trans hqb.out
        have hqc : q < wc.heap.size := Nat.lt_of_lt_of_le hqlt hbx.size
        have hpc : p < wc.heap.size := Nat.lt_of_lt_of_le hpr hbc.size
        have hszc : w.heap.size ≤ wc.heap.size := hFc.size
        by_cases hsame : 0 < k ∧ W[k - 1]?.getD (ByteArray.empty, 0) = (T, B)
        · rw [hr34, decide_eq_true hsame]
          obtain ⟨k', hk'⟩ : ∃ k', k = k' + 1 := ⟨k - 1, by omega⟩
          have hru : runA inc1 S0 (W.take (k + 1)) = runA inc1 S0 (W.take k) := by
            have h2 := hsame.2
            subst hk'
            exact runA_same inc1 S0 W k' (by rw [← HM.out]; omega) (by rw [HU.out]; exact h2.symm)
          have HRU := hide hru
          clear hru hk' hr34 d0 d1 d2 d3 d4 d5 d6 d7 d8 hsame hF hbA hq0 hq1 hqlt hPr hSr hCr hbx hc0 hc1 hcp
          go_wp2
          go_roundw
          case rel =>
            refine ⟨k + 1, v, by go_num, by omega, hPc, ?_, ?_, hL, hFc⟩
            · rw [HRU.out]; exact hSc
            · rw [HRU.out]; exact hCc
          case measure => simp [intOf]; omega
        · rw [hr34, decide_eq_false hsame]
          obtain ⟨a1, cap1, hv, hE⟩ := ents_of hSc
          have hcpc : wc.cell? ⟨p, 0, none⟩ = some v := by rw [cell_of_row wc p 0 #[v] 61 (0, 0) hPc]; rfl
          subst hv
          have HE := hide hE
          have hlen := runA_length inc1 S0 (W.take k)
          have hlenW : (W.take k).length = k := by rw [List.length_take, ← HM.out]; omega
          rw [hlenW, ← HST.out] at hlen
          have HSN := hide (runA_snoc inc1 S0 W k (by rw [← HM.out]; exact hkm) (T, B) HU.out)
          clear hr34 d0 d1 d2 d3 d4 d5 d6 d7 d8 hsame hF hbA hq0 hq1 hqlt hPr hSr hCr hbx hcp hlenW hE
          generalize runA inc1 S0 (W.take k) = R at *
          obtain ⟨S, C⟩ := R
          simp only at hSc hCc hcpc hlen hPc hL HE
          obtain ⟨aC, capC, hvc, hIC⟩ := ints_of hCc
          subst hvc
          have HIC := hide hIC
          clear hIC
          have hl5 : S.length ≤ 200000 := by omega
          cases hix : ix S (T, B) with
          | none =>
            have HIN : Hid (∀ W, IsEnts W a1 S → Calls Try.prog 39 #[.slice a1 S.length cap1, .agg #[.string T, .int .i64 B]] W fun e w' => e = .returned (.int .i64 (-1)) ∧ Below W.heap.size W w') := by
              intro W hW
              have := in_any S a1 cap1 T B W hW hl5
              rw [hix] at this
              exact this
            have HIX := hide hix
            clear hix
            go_wp2
            go_region_held3 (fun w' => w'.cell? ⟨p, 0, none⟩ = some (.slice a1 S.length cap1) ∧ w'.cell? ⟨q, 0, none⟩ = some (.string T) ∧ w'.cell? ⟨q, 1, none⟩ = some (.int .i64 B)) (first | go_keep | (go_split_ands; refine ⟨?_, ?_, ?_⟩ <;> (rw [hbU.cell (by simp; omega)]; assumption))) ((go_at_call 39; refine (HIN.out _ (by exact HE.out)).mono ?_; rintro e wU ⟨rfl, hbU⟩))
            go_wp2
            have hbU' : Below wc.heap.size wc wU := ((Below.refl _ _).drew).trans hbU
            have hFU := hFc.below hbU'
            have hPU := (hbU'.block p hpc).trans hPc
            have hSU := ownsRow_below hSc hbU'
            have hCU := ownsRow_below hCc hbU'
            have hqU := (hbU'.block q hqc).trans hqbc.out
            have hu0 := (hbU'.cell (p := ⟨q, 0, none⟩) hqc).trans hc0
            have hu1 := (hbU'.cell (p := ⟨q, 1, none⟩) hqc).trans hc1
            have hup := (hbU'.cell (p := ⟨p, 0, none⟩) hpc).trans hcpc
            have hufz : wU.frozen? ⟨p, 0, none⟩ = false := frozen_of_row wU p 0 _ 61 hPU
            have hpU : p < wU.heap.size := Nat.lt_of_lt_of_le hpc hbU'.size
            have hqU' : q < wU.heap.size := Nat.lt_of_lt_of_le hqc hbU'.size
            have hapP : Value.ownBlock (.slice a1 S.length cap1) ≠ some p := apart hPU hSU
            have hapQ : Value.ownBlock (.slice a1 S.length cap1) ≠ some q := apartQ hqU hSU
            have hszU : w.heap.size ≤ wU.heap.size := hFU.size
            have hfz2 : ∀ o, (wU.alloc o).frozen? ⟨p, 0, none⟩ = false := fun o => (World.frozen?_alloc_past o p 0 hpU).trans hufz
            have hfz3 : ∀ o, (wU.alloc o).drew.frozen? ⟨p, 0, none⟩ = false := fun o => hfz2 o
            have HPU := hide hPU
            clear hbU hbU' hPc hSc hCc hqbc hc0 hc1 hcpc hFc hqU hPU
            go_region_law ((refine step_append_lies _ (by rfl) _ _ _ (by rfl) 0 65 i0 _ 3 32 Try.underlying61 hi hz0 hz1 H2.out rfl (by omega) (.slice a1 S.length cap1) S.length (entCells S) (by rfl) ((hSU.alloc _).drew) ⟨wU.heap.size, 0, none⟩ 1 1 [.string T, .int .i64 B, .int .i64 1] (by rfl) (by rfl) (World.news_of_block (cs := #[.string T, .int .i64 B, .int .i64 1]) (t := 65) (fr := (0, 0)) (heap_alloc_new wU _)) (by simp [Value.oneCell']) (by omega) (by unfold maxLen; omega) (by omega) (by simp) (wU.heap.size + 1) (by simp) ?_; intro gg cap w1 hown1 hgrow hat hlt; have hw1p := (hgrow.cell_far ⟨p, 0, none⟩ (by simp; omega) (Ne.symm hapP)).trans ((World.cell?_alloc_past _ p 0 hpU).trans hup); have hw1f := (hgrow.frozen_far ⟨p, 0, none⟩ (by simp; omega) (Ne.symm hapP)).trans (hfz2 _)))
            all_goals go_wp2
            all_goals
              have hpX : (wU.alloc (Obj.cells #[Value.string T, Value.int IntKind.i64 B, Value.int IntKind.i64 1] 65)).drew.heap[p]? = some (.cells #[.slice a1 S.length cap1] 61 (0, 0)) := (Below.heap_alloc wU _ p hpU).trans HPU.out
              have hFX : Fr w p v0 (wU.alloc (Obj.cells #[Value.string T, Value.int IntKind.i64 B, Value.int IntKind.i64 1] 65)).drew := hFU.below (((Below.refl _ _).alloc (Nat.le_refl _) _).drew)
              have hfin := step_new hpX ((hSU.alloc _).drew) ((hCU.alloc _).drew) hL hFX hown1 hgrow hat (by omega)
              have hstp : runA inc1 S0 (W.take (k + 1)) = (S ++ [((T, B), 1)], C) := by rw [HSN.out]; exact stepA_none HIX.out
              go_roundw
              case rel => exact ⟨k + 1, _, by go_num, by omega, hfin.1, by rw [hstp]; exact hfin.2.1, by rw [hstp]; exact hfin.2.2.1, hfin.2.2.2.1, hfin.2.2.2.2⟩
              case measure => simp [intOf]; omega
          | some j =>
            have HIN : Hid (∀ W, IsEnts W a1 S → Calls Try.prog 39 #[.slice a1 S.length cap1, .agg #[.string T, .int .i64 B]] W fun e w' => e = .returned (.int .i64 (j : Int)) ∧ Below W.heap.size W w') := by
              intro W hW
              have := in_any S a1 cap1 T B W hW hl5
              rw [hix] at this
              exact this
            have HIX := hide hix
            clear hix
            go_wp2
            go_region_held3 (fun w' => w'.cell? ⟨p, 0, none⟩ = some (.slice a1 S.length cap1) ∧ w'.cell? ⟨q, 0, none⟩ = some (.string T) ∧ w'.cell? ⟨q, 1, none⟩ = some (.int .i64 B)) (first | go_keep | (go_split_ands; refine ⟨?_, ?_, ?_⟩ <;> (rw [hbU.cell (by simp; omega)]; assumption))) ((go_at_call 39; refine (HIN.out _ (by exact HE.out)).mono ?_; rintro e wU ⟨rfl, hbU⟩))
            have hbU' : Below wc.heap.size wc wU := ((Below.refl _ _).drew).trans hbU
            have hFU := hFc.below hbU'
            have hPU := (hbU'.block p hpc).trans hPc
            have hSU := ownsRow_below hSc hbU'
            have hCU := ownsRow_below hCc hbU'
            have hup := (hbU'.cell (p := ⟨p, 0, none⟩) hpc).trans hcpc
            have hpU : p < wU.heap.size := Nat.lt_of_lt_of_le hpc hbU'.size
            have hszU : w.heap.size ≤ wU.heap.size := hFU.size
            obtain ⟨hjS, hju, hjb⟩ := ix_lt HIX.out
            have HIU := hide (HIC.out.keep hbU')
            have HPU := hide hPU
            clear hbU hbU' hPc hSc hCc hqbc hc0 hc1 hcpc hFc hPU hju hjb
            by_cases hjs : j < st
            · by_cases hjC : j ∈ C
              · have hstp : runA inc1 S0 (W.take (k + 1)) = (S, C) := by rw [HSN.out]; exact stepA_stay HIX.out (fun h => h.2 hjC)
                have HSTP := hide hstp
                have hcon := contains_int (C.map Int.ofNat) aC capC (j : Int) wU HIU.out (by rw [List.length_map]; omega)
                rw [List.length_map, decide_eq_true (show (j : Int) ∈ C.map Int.ofNat from List.mem_map.2 ⟨j, hjC, rfl⟩)] at hcon
                have HCON := hide hcon
                clear hstp hcon hjC
                go_wp2_with fail
                refine HCON.out.mono ?_
                rintro e w2 ⟨rfl, hww⟩
                obtain rfl : wU = w2 := hww.symm
                go_wp2
                go_roundw
                case rel => exact ⟨k + 1, _, by go_num, by omega, HPU.out, by rw [HSTP.out]; exact hSU, by rw [HSTP.out]; exact hCU, hL, hFU⟩
                case measure => simp [intOf]; omega
              · have hstp : runA inc1 S0 (W.take (k + 1)) = (bump inc1 S j, C ++ [j]) := by rw [HSN.out]; exact stepA_bump HIX.out (by rw [← HST.out]; exact hjs) hjC
                have HSTP := hide hstp
                have hcon := contains_int (C.map Int.ofNat) aC capC (j : Int) wU HIU.out (by rw [List.length_map]; omega)
                rw [List.length_map, decide_eq_false (show ¬ (j : Int) ∈ C.map Int.ofNat from fun h => by obtain ⟨i, hi, he⟩ := List.mem_map.1 h; exact hjC (by rw [← Int.ofNat.inj he]; exact hi))] at hcon
                have HCON := hide hcon
                clear hstp hcon hjC
                go_wp2_with fail
                refine HCON.out.mono ?_
                rintro e w2 ⟨rfl, hww⟩
                obtain rfl : wU = w2 := hww.symm
                have hEU : IsEnts wU a1 S := by
                  obtain ⟨a2, c2, he, hE2⟩ := ents_of hSU
                  cases he
                  exact hE2
                obtain ⟨g, rfl, hgl, hcs⟩ := hEU (by omega)
                have hd2 := (hcs j hjS).2.2
                obtain ⟨cc, hcc⟩ : ∃ cc, cc = (S[j]?.getD e0).2 := ⟨_, rfl⟩
                have hfz := hSU.frozenAt (j * 3 + 2)
                have f := step_bump (inc := inc1) HPU.out hSU hCU hL hFU hjS
                rw [← hcc] at hd2 f
                simp only [inc1] at f
                obtain ⟨f1, f2, f3, f4⟩ := f
                have F1 := hide f1
                have F2 := hide f2
                have F4 := hide f4
                have hjSi : (j : Int) < (S.length : Int) := by omega
                have hYs : w.heap.size ≤ (wU.setCell ⟨g, j * 3 + 2, none⟩ (.int .i64 (wrap64 (cc + 1)))).heap.size := f4.size
                have hnw : ∀ jj u, [Value.int .i64 (j : Int)][jj]? = some u → ((wU.setCell ⟨g, j * 3 + 2, none⟩ (.int .i64 (wrap64 (cc + 1)))).alloc (.cells #[.int .i64 (j : Int)] 3)).cell? ((⟨wU.heap.size, 0, none⟩ : Addr).add jj) = some u := by
                  have h := cell_one_new (wU.setCell ⟨g, j * 3 + 2, none⟩ (.int .i64 (wrap64 (cc + 1)))) (.int .i64 (j : Int)) 3
                  rw [World.size_setCell] at h
                  exact h
                have HNW := hide hnw
                clear hnw
                have HLC : Hid (C.length ≤ 100000) := by show C.length ≤ 100000; omega
                clear hcc hcs f1 f2 f4 hEU hww
                go_wp2_with (at_builtin; refine wpList_append_own _ rfl (.tmp 72) (.tmp 74) 56 rfl w.heap.size 3 i3 (.int .i64 0) 1 8 Try.underlying56 hi3 hz30 hz31 H23.out rfl (by decide) _ _ _ rfl (f3.alloc _) ⟨wU.heap.size, 0, none⟩ 1 1 [.int .i64 (j : Int)] rfl rfl HNW.out (by simp [Value.oneCell']) (by have := HLC.out; unfold maxLen; omega) (by have := HLC.out; omega) (by simp; omega) ?_)
                intro vD wD hownD hgrowD hnilD
                have hfin := step_count (j := j) hp F1.out F2.out f3 F4.out hownD hgrowD
                clear hownD hgrowD hnilD hSU hCU f3 hd2 hfz hup
                go_wp2
                go_roundw
                case rel => exact ⟨k + 1, _, by go_num, by omega, hfin.1, by rw [HSTP.out]; exact hfin.2.1, by rw [HSTP.out]; exact hfin.2.2.1, hL, hfin.2.2.2⟩
                case measure => simp [intOf]; omega
            · have hstp : runA inc1 S0 (W.take (k + 1)) = (S, C) := by rw [HSN.out]; exact stepA_stay HIX.out (fun h => hjs (by rw [HST.out]; exact h.1))
              have HSTP := hide hstp
              clear hstp
              have hdj : decide ((j : Int) < (st : Int)) = false := by simp; omega
              go_wp2
              go_roundw
              case rel => exact ⟨k + 1, _, by go_num, by omega, HPU.out, by rw [HSTP.out]; exact hSU, by rw [HSTP.out]; exact hCU, hL, hFU⟩
              case measure => simp [intOf]; omega
    · obtain rfl : m = k := by omega
      have htk : W.take m = W := List.take_of_length_le (by rw [← HM.out]; omega)
      rw [htk] at hSr
      clear htk
      go_wp2
      go_end0
      exact ⟨rfl, v, hPr, hSr, hL, hF⟩
end Go.Proofs.Qxb6600999a.W
