/-
  THE PLAIN LAW of trimming: lists of bytes and numbers alone, no Go in sight.
-/
namespace Go.Proofs.Qxb6603197a.Plain

/-- How many backslashes (92) stand right before place j. -/
def bsRun (l : List UInt8) : Nat → Nat
  | 0 => 0
  | j + 1 => if l[j]?.getD 0 = 92 then bsRun l j + 1 else 0

/-- Where the trimmed text ends, of the first j bytes. -/
def mEnd (l : List UInt8) : Nat → Nat
  | 0 => 0
  | j + 1 => if l[j]?.getD 0 = 32 then (if bsRun l j % 2 = 1 then j + 1 else mEnd l j) else j + 1

theorem bsRun_le (l : List UInt8) (j : Nat) : bsRun l j ≤ j := by
  induction j with
  | zero => simp [bsRun]
  | succ j ih => unfold bsRun; split <;> omega

theorem mEnd_le (l : List UInt8) (j : Nat) : mEnd l j ≤ j := by
  induction j with
  | zero => simp [mEnd]
  | succ j ih => unfold mEnd; split <;> (try split) <;> omega

theorem run_bs {l : List UInt8} {j : Nat} (h : l[j]?.getD 0 = 92) : bsRun l (j + 1) = bsRun l j + 1 := by
  simp [bsRun, h]
theorem run_other {l : List UInt8} {j : Nat} (h : ¬ l[j]?.getD 0 = 92) : bsRun l (j + 1) = 0 := by
  simp [bsRun, h]
theorem end_other {l : List UInt8} {j : Nat} (h : ¬ l[j]?.getD 0 = 32) : mEnd l (j + 1) = j + 1 := by
  simp [mEnd, h]
theorem end_odd {l : List UInt8} {j : Nat} (h : bsRun l j % 2 = 1) : mEnd l (j + 1) = j + 1 := by
  simp [mEnd, h]
theorem end_space {l : List UInt8} {j : Nat} (h : l[j]?.getD 0 = 32) (he : bsRun l j % 2 = 0) : mEnd l (j + 1) = mEnd l j := by
  have : ¬ bsRun l j % 2 = 1 := by omega
  simp [mEnd, h, this]

/-- A round of the left-to-right loop at a space. -/
theorem at_space {l : List UInt8} {k : Nat} (h : l[k]?.getD 0 = 32) (he : bsRun l k % 2 = 0) :
    bsRun l (k + 1) % 2 = 0 ∧ mEnd l (k + 1) = mEnd l k :=
  ⟨by rw [run_other (by rw [h]; decide)], end_space h he⟩
/-- .. at a byte that is neither. -/
theorem at_plain {l : List UInt8} {k : Nat} (h : ¬ l[k]?.getD 0 = 32) (h2 : ¬ l[k]?.getD 0 = 92) :
    bsRun l (k + 1) % 2 = 0 ∧ mEnd l (k + 1) = k + 1 :=
  ⟨by rw [run_other h2], end_other h⟩
/-- .. at a backslash: it and the byte behind it. -/
theorem at_bs {l : List UInt8} {k : Nat} (h : l[k]?.getD 0 = 92) (he : bsRun l k % 2 = 0) :
    bsRun l (k + 2) % 2 = 0 ∧ mEnd l (k + 2) = k + 2 := by
  have h1 := run_bs h
  have hodd : bsRun l (k + 1) % 2 = 1 := by omega
  refine ⟨?_, end_odd hodd⟩
  by_cases h3 : l[k + 1]?.getD 0 = 92
  · have := run_bs h3; show bsRun l (k + 1 + 1) % 2 = 0; omega
  · show bsRun l (k + 1 + 1) % 2 = 0; rw [run_other h3]
/-- .. at a backslash that ends the text. -/
theorem at_bs_end {l : List UInt8} {k : Nat} (h : l[k]?.getD 0 = 92) : mEnd l (k + 1) = k + 1 :=
  end_other (by rw [h]; decide)

/-- How the count of backslashes before place j, reckoned from the right, goes on. -/
def allBs (l : List UInt8) (j k : Nat) : Prop := k ≤ j ∧ ∀ i, j - k ≤ i → i < j → l[i]?.getD 0 = 92

theorem run_of_all {l : List UInt8} {j : Nat} : ∀ {k : Nat}, allBs l j k → (k = j ∨ ¬ l[j - 1 - k]?.getD 0 = 92) → bsRun l j = k := by
  induction j with
  | zero => intro k h _; have := h.1; simp [bsRun]; omega
  | succ j ih =>
    intro k h hs
    match k, h, hs with
    | 0, _, hs =>
      rcases hs with hs | hs
      · omega
      · exact run_other (by simpa using hs)
    | k + 1, h, hs =>
      have hj : l[j]?.getD 0 = 92 := h.2 j (by omega) (by omega)
      rw [run_bs hj, ih (k := k)]
      · refine ⟨by have := h.1; omega, fun i h1 h2 => h.2 i (by omega) (by omega)⟩
      · rcases hs with hs | hs
        · exact Or.inl (by omega)
        · refine Or.inr ?_
          rw [show j - 1 - k = j + 1 - 1 - (k + 1) from by omega]; exact hs
theorem all_zero (l : List UInt8) (j : Nat) : allBs l j 0 := ⟨by omega, fun i h1 h2 => by omega⟩
theorem all_succ {l : List UInt8} {j k : Nat} (h : allBs l j k) (hk : k < j) (hb : l[j - 1 - k]?.getD 0 = 92) : allBs l j (k + 1) := by
  refine ⟨hk, fun i h1 h2 => ?_⟩
  by_cases e : i = j - 1 - k
  · rw [e]; exact hb
  · exact h.2 i (by omega) h2

/-- A plain byte put in front. -/
theorem run_cons (c : UInt8) (l : List UInt8) (hc : ¬ c = 92) (j : Nat) : bsRun (c :: l) (j + 1) = bsRun l j := by
  induction j with
  | zero => simp [bsRun, hc]
  | succ j ih =>
    show (if (c :: l)[j + 1]?.getD 0 = 92 then bsRun (c :: l) (j + 1) + 1 else 0) = (if l[j]?.getD 0 = 92 then bsRun l j + 1 else 0)
    rw [ih]; simp
theorem end_cons (c : UInt8) (l : List UInt8) (hc : ¬ c = 92) (h32 : ¬ c = 32) (j : Nat) : mEnd (c :: l) (j + 1) = mEnd l j + 1 := by
  induction j with
  | zero => simp [mEnd, h32]
  | succ j ih =>
    show (if (c :: l)[j + 1]?.getD 0 = 32 then (if bsRun (c :: l) (j + 1) % 2 = 1 then j + 1 + 1 else mEnd (c :: l) (j + 1)) else j + 1 + 1)
      = (if l[j]?.getD 0 = 32 then (if bsRun l j % 2 = 1 then j + 1 else mEnd l j) else j + 1) + 1
    rw [ih, run_cons c l hc]
    simp only [List.getElem?_cons_succ]
    split
    · split <;> rfl
    · rfl

/-- THE LAW of the first byte. -/
theorem trim_cons (c : UInt8) (l : List UInt8) (hc : ¬ c = 92) (h32 : ¬ c = 32) :
    (c :: l).take (mEnd (c :: l) (c :: l).length) = c :: l.take (mEnd l l.length) := by
  rw [List.length_cons, end_cons c l hc h32, List.take_succ_cons]

end Go.Proofs.Qxb6603197a.Plain
