import Derived.Test.Qxb6603197aWalks
import Derived.Laws.IdiomStrings
import Derived.ShutString
namespace Go.Proofs.Qxb6603197a.W
open Go.RowKit Go.Proofs.Qxb6603197a.Plain

theorem zz_any (p : ByteArray) (w : World) (hs : p.size ≤ 2097152) :
    Calls Try.prog 9 #[.string p] w fun e w' => e = .returned (.string (trimmed p)) ∧ w' = w := by
  go_enter Try.func9, Try.ntmps9
  go_wp2_with fail
  refine (trim_any _ _ hs).mono ?_
  rintro e w' ⟨rfl, rfl⟩
  go_wp2
  go_ret
  exact ⟨rfl, rfl⟩

theorem trimmed_list (p : ByteArray) : (trimmed p).data.toList = p.data.toList.take (mEnd p.data.toList p.data.toList.length) := by
  have h : p.data.toList.length = p.size := by simp
  rw [h]
  simp [trimmed]
theorem trimmed_size (p : ByteArray) : (trimmed p).size ≤ p.size := by
  have h := congrArg List.length (trimmed_list p)
  simp at h
  omega
theorem trimmed_head (b : UInt8) (p : ByteArray) (h92 : ¬ b = 92) (h32 : ¬ b = 32) : trimmed ({ data := #[b] } ++ p) = { data := #[b] } ++ trimmed p := by
  apply ByteArray.ext
  apply Array.toList_inj.1
  rw [trimmed_list]
  have e1 : (({ data := #[b] } : ByteArray) ++ p).data.toList = b :: p.data.toList := by simp
  have e2 : (({ data := #[b] } : ByteArray) ++ trimmed p).data.toList = b :: (trimmed p).data.toList := by simp
  rw [e1, e2, trimmed_list, trim_cons b _ h92 h32]

set_option maxHeartbeats 400000 in
theorem first_walk (c : Int) (p : ByteArray) (hc0 : 0 ≤ c) (hc1 : c ≤ 255) (hlen : p.size ≤ 1048576) (h32 : (c == 32) = false) (h92 : (c == 92) = false) (w : World) :
    Calls Try.prog 5 #[.int .u8 c, .string p] w fun e w' => e = .returned (.bool true) ∧ Grown w w' := by
  have hcn : (UInt8.ofNat c.toNat).toNat = c.toNat := by simp; omega
  have hcv : (convert 25 9 (.slice (some ⟨w.heap.size, 0, none⟩) 1 1)).run Try.prog (w.alloc (.cells #[.int .u8 c] 5)) = .ok (.string ⟨#[UInt8.ofNat c.toNat]⟩) (w.alloc (.cells #[.int .u8 c] 5)) := by
    refine run_convert_bytes_back (P := Try.prog) _ 25 9 5 ⟨w.heap.size, 0, none⟩ 1 [UInt8.ofNat c.toNat] Try.underlying25 Try.underlying5 Try.underlying9 ?_
    intro j hj
    obtain rfl : j = 0 := by simpa using hj
    have e : ((UInt8.ofNat c.toNat).toNat : Int) = c := by omega
    rw [List.getElem_cons_zero, e]
    simp [Addr.add]
  have b92 : ¬ UInt8.ofNat c.toNat = 92 := by
    intro e
    have := congrArg UInt8.toNat e
    rw [hcn] at this
    have h9 := beq_eq_false_iff_ne.1 h92
    have : c.toNat = 92 := this
    omega
  have b32 : ¬ UInt8.ofNat c.toNat = 32 := by
    intro e
    have := congrArg UInt8.toNat e
    rw [hcn] at this
    have h9 := beq_eq_false_iff_ne.1 h32
    have : c.toNat = 32 := this
    omega
  generalize UInt8.ofNat c.toNat = b at hcv b92 b32
  clear hcn
  have htr := hide (trimmed_head b p b92 b32)
  have hsz := trimmed_size p
  have h1 : ({ data := #[b] } : ByteArray).size = 1 := rfl
  have h1' : ({ data := #[b] } : ByteArray).size ≤ 1 := by omega
  clear b92 b32 h1
  generalize ({ data := #[b] } : ByteArray) = hd at hcv htr h1'
  go_enter Try.func5, Try.ntmps5
  go_wp2_with (first | (go_at_call 12; go_in))
  refine (zz_any _ _ (by simp; omega)).mono ?_
  rintro e w' ⟨rfl, rfl⟩
  rw [htr.out]
  go_wp2_with fail
  refine (zz_any _ _ (by omega)).mono ?_
  rintro e w' ⟨rfl, rfl⟩
  go_wp2
  go_ret
  exact ⟨by simp, (Grown.refl _).alloc _ _⟩

end Go.Proofs.Qxb6603197a.W
