/- slices.Sort at uint16: the row is sorted; nothing else turns but new blocks. -/
import Derived.Test.YbulkamjsU14
import Derived.Test.YbulkamjsU11
import Derived.Test.YbulkamjsU7
import Derived.Test.YbulkamjsU6
import Derived.Test.YbulkamjsU5
import Derived.Test.YbulkamjsU4
import Derived.Test.YbulkamjsDir
import Derived.Sort.AssemblyPlain
namespace Go.Proofs.Ybulkamjs
open Go.RowKit Go.Sort Go.Proofs
set_option linter.unusedVariables false

theorem callees13U : Callees13U where
  ins := insertionSort_intU
  brk := breakPatterns_intU
  piv := choosePivot_intU
  par := partialInsertionSort_intU
  peq := partitionEqualOrdered_intU
  prt := partitionOrdered_intU
theorem plain13U : Plain13 where
  swo := swo_ltInt
  ins := insertionSort_holds
  par := partialInsertionSort_holds
  prt := partition_holds _
  peq := partitionEqual_holds _
  pdq := pdq_sorts _
theorem pdqWalkU : pdqWalk_intU := fun blk off cap a b limit d w hH hb hab hbd hsz hl hB =>
  pdqsort_intU callees13U plain13U (b - a + 1) blk off cap a b limit d w (by omega) hH hb hab hbd hsz hl hB
theorem slices_SortU (blk off cap : Nat) (zs : List Int) (w : World) (hH : Holds (Value.int .u16) w blk off zs.toArray) (hblk : blk < w.heap.size) (hsz : zs.length < 4611686018427387904) :
    Calls Yba.prog 8 #[.slice (some ⟨blk, off, none⟩) zs.length cap] w fun e w' =>
      e = .returned (.tuple #[]) ∧ ∃ n os, w' = grow (putRow (Value.int .u16) (Sort.ahead w n) blk off (zs.mergeSort fun x y => decide (x ≤ y)).toArray) os := by
  have h := Sort_intU pdqWalkU blk off cap zs.toArray w hH hblk (by simpa using hsz)
  rw [show Sort.sort ltInt zs.toArray = (zs.mergeSort fun x y => decide (x ≤ y)).toArray by rw [← sortInt zs]] at h
  simpa using h

/-- A block of uint16s that holds zs. -/
def RowU (w : World) (b : Nat) (zs : List Int) : Prop := ∃ C : Array Value, w.heap[b]? = some (.cells C 24 (0, 0)) ∧ ∀ (i : Nat) (z : Int), zs[i]? = some z → C[i]? = some (Value.int .u16 z)
theorem RowU.cell {w : World} {b : Nat} {zs : List Int} (h : RowU w b zs) {i : Nat} {z : Int} (hz : zs[i]? = some z) : w.cell? ⟨b, i, none⟩ = some (.int .u16 z) := by
  obtain ⟨C, h1, h2⟩ := h
  rw [cell_of_row w b i _ 24 (0, 0) h1]; exact h2 i z hz
theorem RowU.move {w w' : World} {b : Nat} {zs : List Int} (h : RowU w b zs) (e : w'.heap[b]? = w.heap[b]?) : RowU w' b zs := by
  obtain ⟨C, h1, h2⟩ := h
  exact ⟨C, e.trans h1, h2⟩
theorem sortU (b cap : Nat) (zs : List Int) (w : World) (h : RowU w b zs) (hl : zs.length < 100000) :
    Calls Yba.prog 8 #[.slice (some ⟨b, 0, none⟩) zs.length cap] w fun e w' => e = .returned (.tuple #[]) ∧ RowU w' b (zs.mergeSort fun x y => decide (x ≤ y)) ∧ Kept (fun k => k = b) w w' := by
  have hH : Holds (Value.int .u16) w b 0 zs.toArray := fun j hj => by
    have hj' : j < zs.length := by simpa using hj
    have hz : zs[j]? = some zs[j] := List.getElem?_eq_getElem hj'
    constructor
    · rw [Nat.zero_add, h.cell hz]
      simp [hj']
    · obtain ⟨C, h1, _⟩ := h
      simp [World.frozen?, h1]
  obtain ⟨C, hC, hCz⟩ := h
  have hlt := lt_of_heap hC
  refine (slices_SortU b 0 cap zs w hH hlt (by omega)).mono fun e w' ⟨he, n, os, hw⟩ => ⟨he, ?_, ?_⟩
  · have hsz : (zs.mergeSort fun x y => decide (x ≤ y)).length = zs.length := List.length_mergeSort _
    have hb : w'.heap[b]? = some (.cells (putCells (Value.int .u16) 0 (zs.mergeSort fun x y => decide (x ≤ y)).toArray C) 24 (0, 0)) := by
      rw [hw, heap_grow_old _ _ (by simpa using hlt)]
      simp only [putRow, mapBlock, heap_ahead, Array.getElem?_modify, hC, if_true, Option.map_some, onCells]
    refine ⟨_, hb, fun i z hz => ?_⟩
    have hi : i < zs.length := by
      have := (List.getElem?_eq_some_iff.1 hz).1
      omega
    have hcell := cell?_putRow (Value.int .u16) (Sort.ahead w n) b 0 zs.toArray (zs.mergeSort fun x y => decide (x ≤ y)).toArray (holds_ahead _ _ _ _ _ _ hH) (by simp [hsz]) i (by simp [hsz, hi])
    have h2 : w'.cell? ⟨b, i, none⟩ = some (.int .u16 z) := by
      rw [hw, cell?_grow _ _ _ (by simpa using hlt)]
      rw [Nat.zero_add] at hcell
      rw [hcell]
      simp [hz]
    rw [← h2, cell_of_row w' b i _ 24 (0, 0) hb]
  · rw [hw]
    exact ⟨rfl, rfl, rfl, by simp, fun k hk hne => by
      rw [heap_grow_old _ _ (by simpa using hk)]
      simp only [putRow, mapBlock, heap_ahead, Array.getElem?_modify]
      rw [if_neg (fun e => hne e.symm)]⟩
/-- The sorted list ascends. -/
theorem sorted_le (zs : List Int) {i j : Nat} {a b : Int} (hij : i ≤ j) (ha : (zs.mergeSort fun x y => decide (x ≤ y))[i]? = some a) (hb : (zs.mergeSort fun x y => decide (x ≤ y))[j]? = some b) : a ≤ b := by
  have hp : (zs.mergeSort fun x y => decide (x ≤ y)).Pairwise (fun x y => decide (x ≤ y) = true) := List.pairwise_mergeSort (fun a b c h1 h2 => by simp at h1 h2 ⊢; omega) (fun a b => by simp; omega) zs
  rcases Nat.lt_or_ge i j with h | h
  · obtain ⟨h1, e1⟩ := List.getElem?_eq_some_iff.1 ha
    obtain ⟨h2, e2⟩ := List.getElem?_eq_some_iff.1 hb
    have := (List.pairwise_iff_getElem.1 hp) i j h1 h2 h
    rw [e1, e2] at this
    simpa using this
  · have : i = j := by omega
    subst this
    rw [ha] at hb
    injection hb with hb
    omega
end Go.Proofs.Ybulkamjs
