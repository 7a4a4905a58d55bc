import Derived.Test.Qxb6600999aScript
namespace Go.Proofs.Qxb6600999a.W
open Go.RowKit Go.Proofs.Qxb6600999a.Plain
set_option linter.unusedVariables false
attribute [local go_sem ↓] Go.wp_at_zero Go.wp_at_succ

set_option maxRecDepth 100000 in
set_option maxHeartbeats 1600000 in
theorem bytes34_any (s0 : List ByteArray) (n1 n2 : Nat) (a0 a1 a2 : Option Addr) (c0 c1 c2 : Nat) (w : World) (hS0 : IsStrs w a0 s0) (h0 : s0.length ≤ 9223372036854775807) (h1 : n1 ≤ 9223372036854775807) (h2 : n2 ≤ 9223372036854775807) :
    Calls Try.prog 34 #[.slice a0 s0.length c0, .slice a1 n1 c1, .slice a2 n2 c2] w (BoolAns w) := by
  obtain ⟨n0, hnn⟩ : ∃ n, n = s0.length := ⟨_, rfl⟩
  rw [← hnn] at h0 ⊢
  have HN0 := hide hnn
  have HS0 := hide hS0
  clear hnn hS0
  go_enter Try.func34, Try.ntmps34
  go_wp2
  · go_ret; exact BoolAns.mk _ _
  go_loop [7, 8] (fun t i => ∃ k q : Nat, i = .int .i64 k ∧ t = .int .i64 q ∧ k ≤ n0 ∧ q ≤ 1048576) (fun _ i => n0 - (intOf i).toNat)
  case atStart => exact ⟨0, n0, rfl, by go_num, Nat.zero_le _, by omega⟩
  case round =>
    obtain ⟨k, q, rfl, rfl, hk, hq⟩ := hrel
    by_cases hkn : k < n0
    · obtain ⟨b, off, rfl, hg, hcs⟩ := HS0.out (by rw [← HN0.out]; omega)
      have c0 := hcs k (by rw [← HN0.out]; exact hkn)
      generalize s0[k]?.getD ByteArray.empty = s at c0
      clear hcs
      by_cases hs : 1048576 < s.size
      · go_wp2
        go_ret
        exact BoolAns.mk _ _
      by_cases hs2 : 1048576 < q + s.size
      · go_wp2
        go_ret
        exact BoolAns.mk _ _
      go_wp2
      go_round
      case rel => exact ⟨k + 1, q + s.size, by go_num, by go_num, by omega, by omega⟩
      case measure => simp [intOf]; omega
    · go_wp2
      all_goals (go_ret; exact BoolAns.mk _ _)

set_option maxRecDepth 100000 in
set_option maxHeartbeats 3200000 in
/-- Some list longer than 4,096: true at once. -/
theorem law9_big (wT : List ByteArray) (n1 n2 : Nat) (a0 a1 a2 : Option Addr) (c0 c1 c2 : Nat) (w : World) (hS0 : IsStrs w a0 wT)
    (h0 : wT.length ≤ 9223372036854775807) (h1 : n1 ≤ 9223372036854775807) (h2 : n2 ≤ 9223372036854775807)
    (hbig : 4096 < wT.length ∨ 4096 < n1 ∨ 4096 < n2) :
    Calls Try.prog 9 #[.slice a0 wT.length c0, .slice a1 n1 c1, .slice a2 n2 c2] w fun e w' => e = .returned (.bool true) ∧ Below w.heap.size w w' := by
  have HBY := hide (bytes34_any wT n1 n2 a0 a1 a2 c0 c1 c2 w hS0 h0 h1 h2)
  obtain ⟨n0, hn0⟩ : ∃ n, n = wT.length := ⟨_, rfl⟩
  rw [← hn0] at HBY hbig h0 ⊢
  clear hn0 hS0
  go_enter Try.func9, Try.ntmps9
  go_wp2_with fail
  refine HBY.out.mono ?_
  rintro e w1 ⟨r, rfl, hww⟩
  obtain rfl : w = w1 := hww.symm
  cases r with
  | false =>
    go_wp2
    go_ret
    exact ⟨rfl, Below.refl _ _⟩
  | true =>
    by_cases q0 : 4096 < n0
    · have d0 : decide ((4096 : Int) < (n0 : Int)) = true := by simp; omega
      go_wp2
      go_ret
      exact ⟨rfl, Below.refl _ _⟩
    have d0 : decide ((4096 : Int) < (n0 : Int)) = false := by simp; omega
    by_cases q1 : 4096 < n1
    · have d1 : decide ((4096 : Int) < (n1 : Int)) = true := by simp; omega
      go_wp2
      go_ret
      exact ⟨rfl, Below.refl _ _⟩
    have d1 : decide ((4096 : Int) < (n1 : Int)) = false := by simp; omega
    have q2 : 4096 < n2 := by omega
    have d2 : decide ((4096 : Int) < (n2 : Int)) = true := by simp; omega
    clear hbig
    go_wp2
    go_ret
    exact ⟨rfl, Below.refl _ _⟩

/-- A piece of the writes' row. -/
theorem writes_seg {w : World} {g M : Nat} {c : Nat → Value} {W : List U} {a b : Nat} (hR : RowV w 68 g M c) (hM : M = W.length * 9) (h : ∀ i, i < W.length → ∀ k, k < 9 → c (i * 9 + k) = wrCell (W[i]?.getD (ByteArray.empty, 0)) k) (hb : b ≤ W.length) : IsWrites w (some ⟨g, a * 9, none⟩) (segA W a b) := by
  intro _
  have hl := segA_length (W := W) (a := a) (b := b) hb
  refine ⟨g, a * 9, rfl, hR.lt, fun j hj => ?_⟩
  rw [hl] at hj
  rw [segA_get hj]
  have hx := h (a + j) (by omega)
  have hc : ∀ k, k < 9 → w.cell? ⟨g, a * 9 + j * 9 + k, none⟩ = some (wrCell (W[a + j]?.getD (ByteArray.empty, 0)) k) := by
    intro k hk
    rw [hR.cell _ (by omega), show a * 9 + j * 9 + k = (a + j) * 9 + k from by omega, hx k hk]
  exact ⟨hc 0 (by omega), hc 1 (by omega), hc 2 (by omega), hc 3 (by omega), hc 4 (by omega), hc 5 (by omega), hc 6 (by omega), hc 7 (by omega), hc 8 (by omega)⟩

theorem stA_length (ls : List Int) (wT : List ByteArray) (wB : List Int) (m c : Nat) (hc : c ≤ 100000) : (stA ls (writesOf wT wB m) c).length ≤ m := by
  have h := (script_law ls wT wB m c hc).1
  have hl := congrArg List.length h
  rw [List.length_map] at hl
  rw [hl]
  refine Nat.le_trans (newsOf_length _ _) ?_
  rw [List.length_take, writesOf_length]
  omega

/-- One call of the script: what it may be told. -/
theorem pre_call {w5 wr : World} {wT : List ByteArray} {wB : List Int} {gQ gS gE p m c P E o capw : Nat} {cQ : Nat → Value} {v : Value} {S : List En}
    (hRQ : RowV w5 68 gQ (m * 9) cQ) (hQ : ∀ i, i < m → ∀ k, k < 9 → cQ (i * 9 + k) = wrCell (uAt wT wB i) k) (hQS : gQ < gS) (hSE : gS < gE) (hEp : gE < p) (hPE : P ≤ E) (hEm : E ≤ m) (hm : m ≤ 4096)
    (hP : wr.heap[p]? = some (.cells #[v] 61 (0, 0))) (hSt : wr.ownsRow 0 65 3 v S.length (entCells S)) (hSl : S.length ≤ m) (hvb : ∀ g, v.ownBlock = some g → p < g) (hb : Below gS w5 wr) (ho : o = P * 9 ∨ P = E) :
    Calls Try.prog 33 #[.pointer (some ⟨p, 0, none⟩), .slice (some ⟨gQ, o, none⟩) (E - P) capw] ((wr.setCell ⟨gS, c, none⟩ (.int .i64 P)).setCell ⟨gE, c, none⟩ (.int .i64 E)) (Added ((wr.setCell ⟨gS, c, none⟩ (.int .i64 P)).setCell ⟨gE, c, none⟩ (.int .i64 E)) p v (runA inc1 S (segA (writesOf wT wB m) P E)).1) := by
  have hl := segA_length (W := writesOf wT wB m) (a := P) (b := E) (by rw [writesOf_length]; exact hEm)
  have hRQ' : RowV ((wr.setCell ⟨gS, c, none⟩ (.int .i64 P)).setCell ⟨gE, c, none⟩ (.int .i64 E)) 68 gQ (m * 9) cQ :=
    ((hRQ.at (hb.block gQ hQS)).other _ _ (by show gQ ≠ gS; omega)).other _ _ (by show gQ ≠ gE; omega)
  have hW : IsWrites ((wr.setCell ⟨gS, c, none⟩ (.int .i64 P)).setCell ⟨gE, c, none⟩ (.int .i64 E)) (some ⟨gQ, o, none⟩) (segA (writesOf wT wB m) P E) := by
    rcases ho with rfl | rfl
    · exact writes_seg hRQ' (by rw [writesOf_length]) (fun i hi k hk => by rw [writesOf_length] at hi; rw [writesOf_get _ _ _ _ hi]; exact hQ i hi k hk) (by rw [writesOf_length]; exact hEm)
    · intro h
      rw [hl] at h
      omega
  have hne : ∀ g, g ≤ p → v.ownBlock ≠ some g := fun g hg e => by have := hvb g e; omega
  have h := add_any S (segA (writesOf wT wB m) P E) (some ⟨gQ, o, none⟩) capw p v _ hW (fun b off h => by cases h; exact ⟨by omega, fun e => hne gQ (by omega) e.symm⟩)
    ((heap_setCell_other _ _ p _ (by show p ≠ gE; omega)).trans ((heap_setCell_other _ _ p _ (by show p ≠ gS; omega)).trans hP))
    (own_set_other (own_set_other hSt _ _ (hne gS (by omega))) _ _ (hne gE (by omega))) (by omega) (by rw [hl]; omega)
  rw [hl] at h
  exact h

/-- And what it leaves. -/
theorem step_call {w5 wr w2 : World} {gS gE p n2 c P E : Nat} {cS cE : Nat → Value} {v : Value} {R : List En} {e : Ending}
    (hSE : gS < gE) (hEp : gE < p) (hRS : RowV wr 3 gS (n2 * 1) cS) (hRE : RowV wr 3 gE (n2 * 1) cE) (hpr : p < wr.heap.size)
    (hvb : ∀ g, v.ownBlock = some g → p < g) (hb : Below gS w5 wr) (hsz : gS ≤ w5.heap.size)
    (hA : Added ((wr.setCell ⟨gS, c, none⟩ (.int .i64 P)).setCell ⟨gE, c, none⟩ (.int .i64 E)) p v R e w2) :
    e = .returned (.tuple #[]) ∧ ∃ v', RowV w2 3 gS (n2 * 1) (fun i => if i = c then .int .i64 P else cS i) ∧ RowV w2 3 gE (n2 * 1) (fun i => if i = c then .int .i64 E else cE i) ∧
      w2.heap[p]? = some (.cells #[v'] 61 (0, 0)) ∧ w2.ownsRow 0 65 3 v' R.length (entCells R) ∧ (∀ g, v'.ownBlock = some g → p < g) ∧ Below gS w5 w2 := by
  obtain ⟨he, v', h1, h2, h3, h4⟩ := hA
  have hne : ∀ g, g ≤ p → some g ≠ v.ownBlock := fun g hg e => by have := hvb g e.symm; omega
  have hS' : RowV ((wr.setCell ⟨gS, c, none⟩ (.int .i64 P)).setCell ⟨gE, c, none⟩ (.int .i64 E)) 3 gS (n2 * 1) (fun i => if i = c then .int .i64 P else cS i) := (hRS.set c _).other _ _ (by show gS ≠ gE; omega)
  have hE' : RowV ((wr.setCell ⟨gS, c, none⟩ (.int .i64 P)).setCell ⟨gE, c, none⟩ (.int .i64 E)) 3 gE (n2 * 1) (fun i => if i = c then .int .i64 E else cE i) := (hRE.other _ _ (by show gE ≠ gS; omega)).set c _
  have hb' : Below gS w5 ((wr.setCell ⟨gS, c, none⟩ (.int .i64 P)).setCell ⟨gE, c, none⟩ (.int .i64 E)) := (hb.setCell (Nat.le_refl _) _).setCell (by show gS ≤ gE; omega) _
  refine ⟨he, v', hS'.at (h4.block gS hS'.lt (by omega) (hne gS (by omega))), hE'.at (h4.block gE hE'.lt (by omega) (hne gE (by omega))), h1, h2, ?_, ?_⟩
  · intro g hg
    rcases h3 with h3 | ⟨g', h3, hge⟩
    · exact hvb g (h3 ▸ hg)
    · rw [h3] at hg
      cases hg
      rw [World.size_setCell, World.size_setCell] at hge
      omega
  · exact hb'.trans (h4.toBelow (Nat.le_trans hsz hb'.size) (by omega) (fun k hk => by have := hvb k hk; omega))
end Go.Proofs.Qxb6600999a.W
