/- TopologyDescription.pick. -/
import Derived.Test.YbulkamrgAny
import Derived.Deep.CutRange
namespace Go.Proofs.Ybulkamrg
open Go.RowKit Go.Maps Go.WideMaps
attribute [-go_sem] loadCells
attribute [-simp] Yba.zeroValue59 Yba.typeInfo59

def A10 (ty : Int) (a : Option Addr) (n cap : Nat) : List Value := [.int .u16 ty, .slice a n cap, .bool false, .int .i64 0, .int .i64 0, .bool false, .int .i64 0, .int .u64 0, .int .i64 0, .pointer none]
def z10 : List Value := [.string ⟨#[]⟩, .string ⟨#[]⟩, .string ⟨#[]⟩, .string ⟨#[]⟩, .string ⟨#[]⟩, .string ⟨#[]⟩, .string ⟨#[]⟩, .string ⟨#[]⟩, .int .i64 0, .map none]
/-- The zero criteria, and criteria with a matcher. -/
def Z20 : List Value := A10 0 none 0 0 ++ z10
def C20 (ty : Int) (a : Option Addr) (n cap : Nat) (X : List Value) : List Value := A10 ty a n cap ++ X
theorem zero59 (w : World) : (zeroValue 59).run Yba.prog w = .ok (.agg Z20.toArray) w := by kernel_rfl
theorem set20 (ty : Int) (a : Option Addr) (n cap : Nat) : (((((((((Z20.set 0 (.int .u16 ty)).set 1 (.slice a n cap)).set 2 (.bool false)).set 3 (.int .i64 0)).set 4 (.int .i64 0)).set 5 (.bool false)).set 6 (.int .i64 0)).set 7 (.int .u64 0)).set 8 (.int .i64 0)).set 9 (.pointer none) = C20 ty a n cap z10 := rfl
theorem build59z (w : World) : (Instr.build 59 #[]).run Yba.prog w = .ok (.agg Z20.toArray) w := by kernel_rfl
theorem Z20_len : Z20.length = 20 := rfl
theorem C20_len (ty : Int) (a : Option Addr) (n cap : Nat) {X : List Value} (h : X.length = 10) : (C20 ty a n cap X).length = 20 := by simp [C20, A10, h]
theorem z10_len : z10.length = 10 := rfl
theorem A10_one (ty : Int) (a : Option Addr) (n cap : Nat) : ∀ v ∈ A10 ty a n cap, v.oneCell' = true := by
  intro v hv
  simp only [A10, List.mem_cons, List.not_mem_nil, or_false] at hv
  rcases hv with h | h | h | h | h | h | h | h | h | h <;> subst h <;> rfl
theorem z10_one' : ∀ v ∈ z10, v.oneCell' = true := by
  intro v hv
  simp only [z10, List.mem_cons, List.not_mem_nil, or_false] at hv
  rcases hv with h | h | h | h | h | h | h | h | h | h <;> subst h <;> rfl
theorem C20_one (ty : Int) (a : Option Addr) (n cap : Nat) {X : List Value} (h : ∀ v ∈ X, v.oneCell' = true) : ∀ v ∈ C20 ty a n cap X, v.oneCell' = true := by
  intro v hv
  rw [C20, List.mem_append] at hv
  exact hv.elim (A10_one ty a n cap v) (h v)
theorem Z20_one : ∀ v ∈ Z20, v.oneCell' = true := C20_one 0 none 0 0 z10_one'
attribute [local simp] zero59

abbrev F8 : List Value := [.bool false, .int .i64 0, .int .i64 0, .bool false, .int .i64 0, .int .u64 0, .int .i64 0, .pointer none]
/-- What lies in memory once pick has set out. -/
structure PW (w W : World) (T : Array Value) (rs : List Value) : Prop where
  below : Below w.heap.size w W
  size : W.heap.size = w.heap.size + 1 + 1 + 1 + 1
  h0 : W.heap[w.heap.size]? = some (.cells T 49 (0, 0))
  h1 : W.heap[w.heap.size + 1]? = some (.cells rs.toArray 64 (0, 0))
  h2 : W.heap[w.heap.size + 1 + 1]? = some (.cells F8.toArray 53 (0, 0))
  h3 : W.heap[w.heap.size + 1 + 1 + 1]? = some (.cells Z20.toArray 59 (0, 0))
theorem pw_made (w : World) (T : Array Value) (rs : List Value) : PW w ((((w.alloc (.cells T 49 (0, 0))).alloc (.cells rs.toArray 64 (0, 0))).alloc (.cells F8.toArray 53 (0, 0))).alloc (.cells Z20.toArray 59 (0, 0))) T rs := by
  refine ⟨((((Below.refl w.heap.size w).alloc (Nat.le_refl _) _).alloc (by simp) _).alloc (by simp; omega) _).alloc (by simp; omega) _, by simp, ?_, ?_, ?_, ?_⟩
  · rw [Below.heap_alloc _ _ _ (by first | (simp; done) | (simp; omega)), Below.heap_alloc _ _ _ (by first | (simp; done) | (simp; omega)), Below.heap_alloc _ _ _ (by first | (simp; done) | (simp; omega))]
    exact (MapKept.heap_alloc w _).1
  · rw [Below.heap_alloc _ _ _ (by first | (simp; done) | (simp; omega)), Below.heap_alloc _ _ _ (by first | (simp; done) | (simp; omega))]
    simpa using (MapKept.heap_alloc (w.alloc (.cells T 49 (0, 0))) (.cells rs.toArray 64 (0, 0))).1
  · rw [Below.heap_alloc _ _ _ (by simp)]
    simpa using (MapKept.heap_alloc ((w.alloc (.cells T 49 (0, 0))).alloc (.cells rs.toArray 64 (0, 0))) (.cells F8.toArray 53 (0, 0))).1
  · simpa using (MapKept.heap_alloc (((w.alloc (.cells T 49 (0, 0))).alloc (.cells rs.toArray 64 (0, 0))).alloc (.cells F8.toArray 53 (0, 0))) (.cells Z20.toArray 59 (0, 0))).1

/-- .. and once the criteria are laid. -/
structure QW (w W : World) (T : Array Value) (rs X : List Value) : Prop where
  below : Below w.heap.size w W
  size : w.heap.size + 1 + 1 + 1 + 1 < W.heap.size
  h0 : W.heap[w.heap.size]? = some (.cells T 49 (0, 0))
  h1 : W.heap[w.heap.size + 1]? = some (.cells rs.toArray 64 (0, 0))
  h3 : W.heap[w.heap.size + 1 + 1 + 1]? = some (.cells Z20.toArray 59 (0, 0))
  h4 : W.heap[w.heap.size + 1 + 1 + 1 + 1]? = some (.cells X.toArray 59 (0, 0))
theorem qw_made {w W1 W2 : World} {T : Array Value} {rs X : List Value} (h : PW w W1 T rs) (hX : X.length = 20) (he : (W1.alloc (.cells Z20.toArray 59 (0, 0))).setCells (w.heap.size + 1 + 1 + 1 + 1) 0 X = W2) : QW w W2 T rs X := by
  have hs := h.size
  have hb : ∀ k, k < w.heap.size + 1 + 1 + 1 + 1 → W2.heap[k]? = W1.heap[k]? := fun k hk => by
    rw [← he, heap_setCells _ _ _ _ _ (by omega), Below.heap_alloc _ _ _ (by omega)]
  have h4 : (W1.alloc (.cells Z20.toArray 59 (0, 0))).heap[w.heap.size + 1 + 1 + 1 + 1]? = some (.cells Z20.toArray 59 (0, 0)) := by rw [← hs]; exact (MapKept.heap_alloc _ _).1
  refine ⟨?_, ?_, (hb _ (by omega)).trans h.h0, (hb _ (by omega)).trans h.h1, (hb _ (by omega)).trans h.h3, ?_⟩
  · rw [← he]; exact Below_setCells _ (by omega) _ _ _ (h.below.alloc (by omega) _)
  · rw [← he, size_setCells]; simp; omega
  · rw [← he]; exact heap_whole h4 (by rw [hX]; simp [Z20_len])

set_option maxRecDepth 20000 in
set_option maxHeartbeats 4000000 in
theorem pick_none (cap capT : Nat) (ty : Int) (a aT : Option Addr) (n : Nat) (T : Array Value) (r0 r2 r3 : Value) (w : World) :
    Calls Yba.prog 6 #[.agg T, .agg #[r0, .slice aT 0 capT, r2, r3], .agg F0, .slice a n cap, .int .u16 ty] w fun e w' => e = .returned (.agg (C20 ty a n cap z10).toArray) ∧ Below w.heap.size w w' := by
  unfold F0
  have hz := Z20_len
  have hcl := C20_len ty a n cap z10_len
  go_enter Yba.func6, Yba.ntmps6
  go_upto_region 1 with (fail)
  have hpw := pw_made w T [r0, .slice aT 0 capT, r2, r3]
  generalize (((w.alloc (.cells T 49 (0, 0))).alloc (.cells [r0, .slice aT 0 capT, r2, r3].toArray 64 (0, 0))).alloc (.cells F8.toArray 53 (0, 0))).alloc (.cells Z20.toArray 59 (0, 0)) = W1 at hpw ⊢
  have HP : Hid (PW w W1 T [r0, .slice aT 0 capT, r2, r3]) := hpw
  have hsz := hpw.size
  have hl : (loadCells ⟨w.heap.size + 1 + 1, 0, none⟩ 8).run Yba.prog W1 = .ok F8.toArray W1 := lc_block hpw.h2 rfl
  have hset := set20 ty a n cap
  have hn2 : (W1.alloc (.cells Z20.toArray 59 (0, 0))).heap[w.heap.size + 1 + 1 + 1 + 1]? = some (.cells Z20.toArray 59 (0, 0)) := by rw [← hsz]; exact (MapKept.heap_alloc _ _).1
  have hst : (storeCells ⟨w.heap.size + 1 + 1 + 1 + 1, 0, none⟩ (C20 ty a n cap z10)).run Yba.prog (W1.alloc (.cells Z20.toArray 59 (0, 0))) = .ok () ((W1.alloc (.cells Z20.toArray 59 (0, 0))).setCells (w.heap.size + 1 + 1 + 1 + 1) 0 (C20 ty a n cap z10)) :=
    sc_block hn2 (by rw [hcl]; simp [hz]) (C20_one ty a n cap z10_one')
  clear hpw
  go_upto_region 2 with (fail)
  generalize hW2 : (W1.alloc (.cells Z20.toArray 59 (0, 0))).setCells (w.heap.size + 1 + 1 + 1 + 1) 0 (C20 ty a n cap z10) = W2
  have HW2 : Hid (QW w W2 T [r0, .slice aT 0 capT, r2, r3] (C20 ty a n cap z10)) := qw_made HP.out hcl hW2
  clear hW2 hst hn2 hset hl hsz
  have c1 : W2.cell? ⟨w.heap.size + 1, 1, none⟩ = some (.slice aT 0 capT) := by
    rw [cell_of_row _ _ 1 _ 64 (0, 0) HW2.out.h1]; rfl
  have hl : (loadCells ⟨w.heap.size + 1 + 1 + 1 + 1, 0, none⟩ 20).run Yba.prog W2 = .ok (C20 ty a n cap z10).toArray W2 := lc_block HW2.out.h4 hcl
  have hst : (storeCells ⟨w.heap.size + 1 + 1 + 1, 0, none⟩ (C20 ty a n cap z10)).run Yba.prog W2 = .ok () (W2.setCells (w.heap.size + 1 + 1 + 1) 0 (C20 ty a n cap z10)) :=
    sc_block HW2.out.h3 (by rw [hcl]; simp [hz]) (C20_one ty a n cap z10_one')
  have hl2 : (loadCells ⟨w.heap.size + 1 + 1 + 1, 0, none⟩ 20).run Yba.prog (W2.setCells (w.heap.size + 1 + 1 + 1) 0 (C20 ty a n cap z10)) = .ok (C20 ty a n cap z10).toArray (W2.setCells (w.heap.size + 1 + 1 + 1) 0 (C20 ty a n cap z10)) :=
    lc_block (heap_whole HW2.out.h3 (by rw [hcl]; simp [hz])) hcl
  go_wp2
  refine bodyPost_ret (v := .agg (C20 ty a n cap z10).toArray) ?_ rfl ⟨rfl, Below_setCells _ (by omega) _ _ _ HW2.out.below⟩
  simp [results, Yba.results6, go_sem, hl2, Result.andThen]
end Go.Proofs.Ybulkamrg
