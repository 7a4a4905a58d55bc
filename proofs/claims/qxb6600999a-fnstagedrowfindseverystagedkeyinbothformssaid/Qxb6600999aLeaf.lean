import Derived.Test.Qxb6600999aUnits
import Derived.Test.Qxb6600999aAddPlain
namespace Go.Proofs.Qxb6600999a.W
open Go.RowKit Go.Proofs.Qxb6600999a.Plain
set_option linter.unusedVariables false

/-- A slice of ints that can be read: its address and its numbers. -/
def IsInts (w : World) (a : Option Addr) (zs : List Int) : Prop :=
  0 < zs.length → ∃ b off, a = some ⟨b, off, none⟩ ∧ b < w.heap.size ∧ ∀ j, j < zs.length → w.cell? ⟨b, off + j, none⟩ = some (.int .i64 (zs[j]?.getD 0))
/-- A slice of strings that can be read. -/
def IsStrs (w : World) (a : Option Addr) (ss : List ByteArray) : Prop :=
  0 < ss.length → ∃ b off, a = some ⟨b, off, none⟩ ∧ b < w.heap.size ∧ ∀ j, j < ss.length → w.cell? ⟨b, off + j, none⟩ = some (.string (ss[j]?.getD ByteArray.empty))

theorem IsInts.keep {w w' : World} {a : Option Addr} {zs : List Int} (h : IsInts w a zs) (hb : Below w.heap.size w w') : IsInts w' a zs := by
  intro h0
  obtain ⟨b, off, ha, hlt, hc⟩ := h h0
  exact ⟨b, off, ha, Nat.lt_of_lt_of_le hlt hb.size, fun j hj => (hb.cell (p := ⟨b, off + j, none⟩) hlt).trans (hc j hj)⟩
theorem IsStrs.keep {w w' : World} {a : Option Addr} {ss : List ByteArray} (h : IsStrs w a ss) (hb : Below w.heap.size w w') : IsStrs w' a ss := by
  intro h0
  obtain ⟨b, off, ha, hlt, hc⟩ := h h0
  exact ⟨b, off, ha, Nat.lt_of_lt_of_le hlt hb.size, fun j hj => (hb.cell (p := ⟨b, off + j, none⟩) hlt).trans (hc j hj)⟩

theorem min_any (a b : Int) (w : World) : Calls Try.prog 20 #[.int .i64 a, .int .i64 b] w fun e w' => e = .returned (.int .i64 (if a < b then a else b)) ∧ w' = w := by
  by_cases h : a < b
  · rw [if_pos h]
    go_enter Try.func20, Try.ntmps20
    go_wp2
    go_ret
    exact ⟨rfl, rfl⟩
  · rw [if_neg h]
    go_enter Try.func20, Try.ntmps20
    go_wp2
    go_ret
    exact ⟨rfl, rfl⟩

set_option maxHeartbeats 400000 in
theorem index_int (zs : List Int) (a : Option Addr) (cap : Nat) (x : Int) (w : World) (hS : IsInts w a zs) (hn : zs.length ≤ 100000) :
    Calls Try.prog 44 #[.slice a zs.length cap, .int .i64 x] w fun e w' => ∃ r : Int, e = .returned (.int .i64 r) ∧ (0 ≤ r ↔ x ∈ zs) ∧ w' = w := by
  obtain ⟨n, hnn⟩ : ∃ n, n = zs.length := ⟨_, rfl⟩
  rw [← hnn] at hn ⊢
  have HN := hide hnn
  have HS := hide hS
  clear hnn hS
  go_enter Try.func44, Try.ntmps44
  go_wp2_with fail
  go_loop [8] (fun i => ∃ k : Nat, i = .int .i64 k ∧ k ≤ n ∧ Hid (∀ j, j < k → ¬ zs[j]?.getD 0 = x)) (fun i => n - (intOf i).toNat)
  case atStart => exact ⟨0, rfl, Nat.zero_le _, hide (fun j hj => by omega)⟩
  case round =>
    obtain ⟨k, rfl, hk, HB⟩ := hrel
    by_cases hkn : k < n
    · obtain ⟨b, off, rfl, hg, hcs⟩ := HS.out (by rw [← HN.out]; omega)
      have c0 := hcs k (by rw [← HN.out]; exact hkn)
      obtain ⟨z, hz⟩ : ∃ z, z = zs[k]?.getD 0 := ⟨_, rfl⟩
      rw [← hz] at c0
      have HZ := hide hz
      clear hz hcs
      by_cases hx : x = z
      · have he : (x == z) = true := beq_iff_eq.2 hx
        have HX := hide hx
        clear hx
        go_wp2
        go_ret
        refine ⟨k, rfl, ⟨fun _ => ?_, fun _ => by omega⟩, rfl⟩
        have hkl : k < zs.length := by rw [← HN.out]; exact hkn
        rw [HX.out, HZ.out, List.getElem?_eq_getElem hkl]
        exact List.getElem_mem hkl
      · have he : (x == z) = false := beq_eq_false_iff_ne.2 hx
        have HX := hide hx
        clear hx
        go_wp2
        go_round
        case rel =>
          refine ⟨k + 1, by go_num, by omega, hide (fun j hj => ?_)⟩
          by_cases e : j = k
          · rw [e, ← HZ.out]; exact fun h => HX.out h.symm
          · exact HB.out j (by omega)
        case measure => simp [intOf]; omega
    · obtain rfl : n = k := by omega
      go_wp2
      go_ret
      refine ⟨-1, rfl, ⟨fun h => absurd h (by omega), fun hm => ?_⟩, rfl⟩
      obtain ⟨j, hj, hx⟩ := List.mem_iff_getElem.1 hm
      exact absurd (by rw [List.getElem?_eq_getElem hj]; exact hx) (HB.out j (by rw [HN.out]; exact hj))

theorem contains_int (zs : List Int) (a : Option Addr) (cap : Nat) (x : Int) (w : World) (hS : IsInts w a zs) (hn : zs.length ≤ 100000) :
    Calls Try.prog 40 #[.slice a zs.length cap, .int .i64 x] w fun e w' => e = .returned (.bool (decide (x ∈ zs))) ∧ w' = w := by
  have HI := hide (fun W h => index_int zs a cap x W h hn)
  have HS := hide hS
  clear hS
  by_cases h : x ∈ zs
  · rw [decide_eq_true h]
    have HX := hide h
    clear h
    go_enter Try.func40, Try.ntmps40
    go_wp2_with fail
    refine (HI.out _ HS.out).mono ?_
    rintro e w1 ⟨r, rfl, hr, rfl⟩
    have h0 := hr.2 HX.out
    clear hr
    go_wp2
    go_ret
    exact ⟨rfl, rfl⟩
  · rw [decide_eq_false h]
    have HX := hide h
    clear h
    go_enter Try.func40, Try.ntmps40
    go_wp2_with fail
    refine (HI.out _ HS.out).mono ?_
    rintro e w1 ⟨r, rfl, hr, rfl⟩
    have h0 : ¬ 0 ≤ r := fun h' => HX.out (hr.1 h')
    have hd : decide (0 ≤ r) = false := decide_eq_false h0
    clear hr
    go_wp2
    go_ret
    exact ⟨rfl, rfl⟩

/-- The unit at a place of two lists. -/
def uAt (ts : List ByteArray) (bs : List Int) (k : Nat) : U := (ts[k]?.getD ByteArray.empty, bs[k]?.getD 0)

/-- Some place from f to t bears the unit. -/
def amongB (ts : List ByteArray) (bs : List Int) (f t : Nat) (u : U) : Bool := (List.range t).any (fun k => decide (f ≤ k) && decide (uAt ts bs k = u))
theorem amongB_iff {ts : List ByteArray} {bs : List Int} {f t : Nat} {u : U} : amongB ts bs f t u = true ↔ ∃ k, f ≤ k ∧ k < t ∧ uAt ts bs k = u := by
  unfold amongB
  rw [List.any_eq_true]
  constructor
  · rintro ⟨k, h1, h2⟩
    simp only [List.mem_range] at h1
    simp only [Bool.and_eq_true, decide_eq_true_eq] at h2
    exact ⟨k, h2.1, h1, h2.2⟩
  · rintro ⟨k, h1, h2, h3⟩
    exact ⟨k, by simpa using h2, by simp [h1, h3]⟩
theorem amongB_no {ts : List ByteArray} {bs : List Int} {f t : Nat} {u : U} (h : ∀ j, f ≤ j → j < t → ¬ uAt ts bs j = u) : amongB ts bs f t u = false := by
  rw [Bool.eq_false_iff]
  intro e
  obtain ⟨k, h1, h2, h3⟩ := amongB_iff.1 e
  exact h k h1 h2 h3

set_option maxHeartbeats 400000 in
theorem among_any (ts : List ByteArray) (bs : List Int) (at_ ab : Option Addr) (ct cb : Nat) (f t : Nat) (T : ByteArray) (B : Int) (w : World) (hT : IsStrs w at_ ts) (hB : IsInts w ab bs) (h1 : ts.length ≤ 100000) (h2 : bs.length ≤ 100000) (htt : t ≤ ts.length) (htb : t ≤ bs.length) (hft : f ≤ t) :
    Calls Try.prog 32 #[.slice at_ ts.length ct, .slice ab bs.length cb, .int .i64 f, .int .i64 t, .string T, .int .i64 B] w fun e w' => e = .returned (.bool (amongB ts bs f t (T, B))) ∧ w' = w := by
  obtain ⟨n, hnn⟩ : ∃ n, n = ts.length := ⟨_, rfl⟩
  obtain ⟨m, hmm⟩ : ∃ m, m = bs.length := ⟨_, rfl⟩
  rw [← hnn] at h1 htt ⊢
  rw [← hmm] at h2 htb ⊢
  have HN := hide hnn
  have HM := hide hmm
  have HT := hide hT
  have HBB := hide hB
  clear hnn hmm hT hB
  go_enter Try.func32, Try.ntmps32
  go_wp2_with fail
  go_loop [13] (fun i => ∃ k : Nat, i = .int .i64 k ∧ f ≤ k ∧ k ≤ t ∧ Hid (∀ j, f ≤ j → j < k → ¬ uAt ts bs j = (T, B))) (fun i => t - (intOf i).toNat)
  case atStart => exact ⟨f, rfl, Nat.le_refl _, hft, hide (fun j h1 h2 => by omega)⟩
  case round =>
    obtain ⟨k, rfl, hfk, hk, HB⟩ := hrel
    by_cases hkt : k < t
    · have hkn : k < n := by omega
      have hkm : k < m := by omega
      obtain ⟨b1, o1, rfl, hg1, hcs1⟩ := HT.out (by rw [← HN.out]; omega)
      obtain ⟨b2, o2, rfl, hg2, hcs2⟩ := HBB.out (by rw [← HM.out]; omega)
      have c1 := hcs1 k (by rw [← HN.out]; exact hkn)
      have c2 := hcs2 k (by rw [← HM.out]; exact hkm)
      obtain ⟨s, hs⟩ : ∃ s, s = ts[k]?.getD ByteArray.empty := ⟨_, rfl⟩
      obtain ⟨z, hz⟩ : ∃ z, z = bs[k]?.getD 0 := ⟨_, rfl⟩
      rw [← hs] at c1
      rw [← hz] at c2
      have HU : Hid (uAt ts bs k = (s, z)) := by unfold uAt; rw [hs, hz]; rfl
      clear hs hz hcs1 hcs2
      by_cases hsT : s = T
      · subst hsT
        have he1 : (s.toList == s.toList) = true := by simp
        by_cases hzB : z = B
        · subst hzB
          have he2 : (z == z) = true := by simp
          go_wp2
          go_ret
          exact ⟨ret_boolU (amongB_iff.2 ⟨k, hfk, hkt, HU.out⟩).symm, rfl⟩
        · have he2 : (z == B) = false := beq_eq_false_iff_ne.2 hzB
          have HX := hide hzB
          clear hzB
          go_wp2
          go_round
          case rel =>
            refine ⟨k + 1, by go_num, by omega, by omega, hide (fun j hj1 hj2 => ?_)⟩
            by_cases e : j = k
            · rw [e, HU.out]; intro h; cases h; exact HX.out rfl
            · exact HB.out j hj1 (by omega)
          case measure => simp [intOf]; omega
      · have he1 : (s.toList == T.toList) = false := by simpa using toList_ne hsT
        have HX := hide hsT
        clear hsT
        go_wp2
        go_round
        case rel =>
          refine ⟨k + 1, by go_num, by omega, by omega, hide (fun j hj1 hj2 => ?_)⟩
          by_cases e : j = k
          · rw [e, HU.out]; intro h; cases h; exact HX.out rfl
          · exact HB.out j hj1 (by omega)
        case measure => simp [intOf]; omega
    · obtain rfl : t = k := by omega
      go_wp2
      go_ret
      exact ⟨ret_boolU (amongB_no HB.out).symm, rfl⟩
end Go.Proofs.Qxb6600999a.W
