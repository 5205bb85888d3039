/- slices.Clone and slices.Sort at a row of uint16, nil or not. -/
import Derived.Test.YbulkamjsClone
import Derived.Test.YbulkamjsUSort
namespace Go.Proofs.Ybulkamjs
open Go.RowKit
set_option linter.unusedSimpArgs false
set_option linter.unusedVariables false
/-- A slice over a whole block, or nil. -/
def RowQ (w : World) (q : Option Addr) (g : Nat) (zs : List Int) : Prop := (q = none ∧ zs = []) ∨ (q = some ⟨g, 0, none⟩ ∧ RowU w g zs)
theorem RowQ.move {w w' : World} {q : Option Addr} {g : Nat} {zs : List Int} (h : RowQ w q g zs) (e : g < w.heap.size → w'.heap[g]? = w.heap[g]?) : RowQ w' q g zs := by
  rcases h with h | ⟨h1, h2⟩
  · exact .inl h
  · refine .inr ⟨h1, h2.move (e ?_)⟩
    obtain ⟨C, hC, _⟩ := h2
    exact lt_of_heap hC
theorem RowQ.row {w : World} {q : Option Addr} {g : Nat} {zs : List Int} (h : RowQ w q g zs) (h0 : 0 < zs.length) : q = some ⟨g, 0, none⟩ ∧ RowU w g zs := by
  rcases h with ⟨_, h⟩ | h
  · rw [h] at h0; cases h0
  · exact h
theorem clone_any (a : Option Addr) (cap : Nat) (zs : List Int) (w : World) (hl : zs.length ≤ 1024) (h : (a = none ∧ zs = []) ∨ ∃ x, a = some x ∧ ∀ (i : Nat) (z : Int), zs[i]? = some z → w.cell? (x.add i) = some (.int .u16 z)) :
    Calls Yba.prog 7 #[.slice a zs.length cap] w fun e w' => ∃ (q : Option Addr) (g c : Nat), e = .returned (.slice q zs.length c) ∧ RowQ w' q g zs ∧ w.heap.size ≤ g ∧ Below w.heap.size w w' := by
  rcases h with ⟨rfl, rfl⟩ | ⟨x, rfl, hc⟩
  · refine (clone_nil cap w).mono ?_
    rintro e w' ⟨rfl, rfl⟩
    exact ⟨none, w'.heap.size, 0, rfl, .inl ⟨rfl, rfl⟩, Nat.le_refl _, Below.refl _ _⟩
  · refine (clone_some x cap zs w hl hc).mono ?_
    rintro e w' ⟨v', rfl, ⟨h1, h2⟩, hB⟩
    rcases h2 with ⟨rfl, h0⟩ | ⟨g, c, cur, rfl, hb, hg, h3, h4, h5, h6⟩
    · have : zs = [] := List.length_eq_zero_iff.1 h0
      subst this
      exact ⟨none, w.heap.size, 0, rfl, .inl ⟨rfl, rfl⟩, Nat.le_refl _, hB⟩
    · refine ⟨_, g, c, rfl, .inr ⟨rfl, cur, hg, fun i z hz => ?_⟩, hb, hB⟩
      have hi := (List.getElem?_eq_some_iff.1 hz).1
      have h7 : (cur.toList.take (zs.length * 1))[i]? = (zs.map (Value.int .u16))[i]? := by rw [h6]
      rw [List.getElem?_take, if_pos (by omega), List.getElem?_map, hz] at h7
      simpa using h7
theorem sort_any (q : Option Addr) (g cap : Nat) (zs : List Int) (w : World) (h : RowQ w q g zs) (hl : zs.length ≤ 1024) :
    Calls Yba.prog 8 #[.slice q zs.length cap] w fun e w' => e = .returned (.tuple #[]) ∧ RowQ w' q g (zs.mergeSort fun x y => decide (x ≤ y)) ∧ Kept (fun k => k = g) w w' := by
  rcases h with ⟨rfl, rfl⟩ | ⟨rfl, hr⟩
  · refine (Sort_int_nilU none cap w).mono ?_
    rintro e w' ⟨rfl, rfl⟩
    exact ⟨rfl, .inl ⟨rfl, by simp⟩, Kept.refl _ _⟩
  · refine (sortU g cap zs w hr (by omega)).mono ?_
    rintro e w' ⟨rfl, h1, h2⟩
    exact ⟨rfl, .inr ⟨rfl, h1⟩, h2⟩
end Go.Proofs.Ybulkamjs
