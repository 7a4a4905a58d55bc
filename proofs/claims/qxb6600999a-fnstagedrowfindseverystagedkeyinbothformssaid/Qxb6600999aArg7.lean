import Derived.Test.Qxb6600999aStg8
import Derived.OpenShut
import Derived.SliceStrings
namespace Go.Proofs.Qxb6600999a.W
open Go.RowKit Go.Proofs.Qxb6600999a.Plain
set_option linter.unusedVariables false

theorem strs_take7 {w : World} {x : Addr} {ss : List ByteArray} {l : Nat} (hl : l ≤ ss.length) (h : ∀ i, i < ss.length → w.cell? (x.add i) = some (.string (ss.getD i ByteArray.empty))) (hw : ∀ s ∈ ss, s.size ≤ maxLen) :
    ∃ ts : List ByteArray, ts.length = l ∧ IsStrs w (some x) ts ∧ NilOk (some x) ts.length ∧ ∀ i, i < ts.length → (ts[i]?.getD ByteArray.empty).size ≤ maxLen := by
  have hl' : (ss.take l).length = l := by simp; omega
  refine ⟨ss.take l, hl', (fun hp => ?_), (fun h => by cases h), (fun i hi => ?_)⟩
  · rw [hl'] at hp
    obtain ⟨b, off, spot⟩ := x
    have hspot : spot = none := by simpa [Addr.add] using World.cell?_spot (h 0 (by omega))
    subst hspot
    refine ⟨b, off, rfl, World.block_lt_of_cell? w _ (h 0 (by omega)), fun j hj => ?_⟩
    rw [hl'] at hj
    rw [← Go.WideShapes.add_plain, h j (by omega), List.getElem?_take, if_pos hj]
    simp
  · rw [List.getElem?_eq_getElem hi]
    exact hw _ (List.mem_of_mem_take (List.getElem_mem hi))
theorem ints_take7 {w : World} {x : Addr} {zs : List Int} {l : Nat} (hl : l ≤ zs.length) (h : ∀ i, i < zs.length → w.cell? (x.add i) = some (.int .i64 (zs.getD i 0))) (hw : ∀ n ∈ zs, (Lit.int .i64 n).wf = true) :
    ∃ ts : List Int, ts.length = l ∧ IsInts w (some x) ts ∧ NilOk (some x) ts.length ∧ ∀ i, i < ts.length → (Lit.int .i64 (ts[i]?.getD 0)).wf = true := by
  have hl' : (zs.take l).length = l := by simp; omega
  refine ⟨zs.take l, hl', (fun hp => ?_), (fun h => by cases h), (fun i hi => ?_)⟩
  · rw [hl'] at hp
    obtain ⟨b, off, spot⟩ := x
    have hspot : spot = none := by simpa [Addr.add] using World.cell?_spot (h 0 (by omega))
    subst hspot
    refine ⟨b, off, rfl, World.block_lt_of_cell? w _ (h 0 (by omega)), fun j hj => ?_⟩
    rw [hl'] at hj
    rw [← Go.WideShapes.add_plain, h j (by omega), List.getElem?_take, if_pos hj]
    simp
  · rw [List.getElem?_eq_getElem hi]
    exact hw _ (List.mem_of_mem_take (List.getElem_mem hi))
theorem u8s_take7 {w : World} {x : Addr} {zs : List Int} {l : Nat} (hl : l ≤ zs.length) (h : ∀ i, i < zs.length → w.cell? (x.add i) = some (.int .u8 (zs.getD i 0))) (hw : ∀ n ∈ zs, (Lit.int .u8 n).wf = true) :
    ∃ ts : List Int, ts.length = l ∧ IsU8s w (some x) ts ∧ NilOk (some x) ts.length ∧ ∀ i, i < ts.length → (Lit.int .u8 (ts[i]?.getD 0)).wf = true := by
  have hl' : (zs.take l).length = l := by simp; omega
  refine ⟨zs.take l, hl', (fun hp => ?_), (fun h => by cases h), (fun i hi => ?_)⟩
  · rw [hl'] at hp
    obtain ⟨b, off, spot⟩ := x
    have hspot : spot = none := by simpa [Addr.add] using World.cell?_spot (h 0 (by omega))
    subst hspot
    refine ⟨b, off, rfl, World.block_lt_of_cell? w _ (h 0 (by omega)), fun j hj => ?_⟩
    rw [hl'] at hj
    rw [← Go.WideShapes.add_plain, h j (by omega), List.getElem?_take, if_pos hj]
    simp
  · rw [List.getElem?_eq_getElem hi]
    exact hw _ (List.mem_of_mem_take (List.getElem_mem hi))
end Go.Proofs.Qxb6600999a.W
