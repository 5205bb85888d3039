/- Whole ids ([64]byte) by value: the laws that the walks over the directory take for a load and a store of one. -/
import Derived.Test.YbulkamjsLocks
import Derived.WalkKit
import Derived.WalkSpells
import Derived.WalkLawsBesides
import Derived.Deep.RegionHeld3
import Derived.Deep.MidRow
import Derived.Below
import Derived.KernelRfl
import Derived.Maps.OwnSet
import Derived.DeepKeys4
namespace Go.Proofs.Ybulkamjs
open Go.RowKit Go.Maps Go.WideMaps

/-- The zero id: 64 zero bytes. -/
def zid : List Value := List.replicate 64 (.int .u8 0)
theorem zid_len : zid.length = 64 := by simp [zid]
theorem zid_get (j : Nat) (h : j < 64) : zid[j]? = some (.int .u8 0) := by
  rw [zid, List.getElem?_replicate, if_pos h]
theorem zid_all : ∀ v ∈ zid, v.oneCell' = true := by
  intro v hv; rw [zid] at hv; rw [List.eq_of_mem_replicate hv]; rfl
theorem zero40 (w : World) : (zeroValue 40).run Yba.prog w = .ok (.agg zid.toArray) w := by
  rw [Yba.zeroValue40]; rfl
theorem size40 : (Yba.prog.info? 40).map (·.size) = some 64 := by kernel_rfl
theorem under40 : Yba.prog.underlying 40 = some (.array 64 5) := by kernel_rfl

/-- The id that the law's script gives to k. -/
def idk (k : Nat) : List Value := (zid.set 0 (.int .u8 (k + 1))).set 63 (.int .u8 (k * 7))
theorem idk_len (k : Nat) : (idk k).length = 64 := by simp [idk, zid_len]
theorem idk_all (k : Nat) : ∀ v ∈ idk k, v.oneCell' = true := by
  intro v hv
  rcases List.mem_or_eq_of_mem_set hv with hv | rfl
  · rcases List.mem_or_eq_of_mem_set hv with hv | rfl
    · exact zid_all v hv
    · rfl
  · rfl

theorem lc40 {w : World} {b o : Nat} {X : List Value} (hc : w.rangeAt b o X) (hX : X.length = 64) :
    (loadCells ⟨b, o, none⟩ 64).run Yba.prog w = .ok X.toArray w := by
  rw [← hX]
  exact run_loadCells_list (P := Yba.prog) w ⟨b, o, none⟩ X (fun j v hv => by rw [Addr.add_mid]; exact hc j v hv)

/-- The cells of a block that is known whole. -/
theorem lc40_block {w : World} {b : Nat} {X : List Value} {t : TypeId} {fr : Nat × Nat} (hb : w.heap[b]? = some (.cells X.toArray t fr)) (hX : X.length = 64) :
    (loadCells ⟨b, 0, none⟩ 64).run Yba.prog w = .ok X.toArray w := by
  refine lc40 (fun j v hv => ?_) hX
  rw [Nat.zero_add, cell_of_row w b j _ t fr hb]
  simpa using hv


/-- A store of a whole id. -/
theorem sc40 {w : World} {b o : Nat} {X : List Value} (ht : w.there b o 64) (hX : X.length = 64) (h1 : ∀ v ∈ X, v.oneCell' = true) :
    (storeCells ⟨b, o, none⟩ X).run Yba.prog w = .ok () (w.setCells b o X) := by
  have := run_storeCells_cells (P := Yba.prog) b o X 0 w (fun j hj => by simpa using (ht j (by omega)).1) (fun j hj => by simpa using (ht j (by omega)).2) h1
  simpa [storeCells] using this

theorem there_block {w : World} {b : Nat} {C : Array Value} {t : TypeId} (hb : w.heap[b]? = some (.cells C t (0, 0))) (o n : Nat) (h : o + n ≤ C.size) : w.there b o n := fun j hj => by
  constructor
  · rw [cell_of_row w b (o + j) _ t (0, 0) hb, Array.getElem?_eq_getElem (by omega)]; rfl
  · simp [World.frozen?, hb]

/-- Of the blocks a store of many cells turns but one. -/
theorem heap_setCells (b : Nat) : ∀ (vs : List Value) (o : Nat) (w : World) (k : Nat), k ≠ b → (w.setCells b o vs).heap[k]? = w.heap[k]?
  | [], _, _, _, _ => rfl
  | v :: r, o, w, k, h => by
    rw [World.setCells, heap_setCells b r _ _ k h, Below.heap_setCell _ _ _ _ h]
theorem size_setCells (b : Nat) : ∀ (vs : List Value) (o : Nat) (w : World), (w.setCells b o vs).heap.size = w.heap.size
  | [], _, _ => rfl
  | v :: r, o, w => by
    rw [World.setCells, size_setCells b r]; simp [World.setCell]

theorem Below_setCells {B : Nat} {a : World} (b : Nat) (hb : B ≤ b) : ∀ (vs : List Value) (o : Nat) (w : World), Below B a w → Below B a (w.setCells b o vs)
  | [], _, _, h => h
  | v :: r, o, w, h => by
    rw [World.setCells]; exact Below_setCells b hb r _ _ (h.setCell (p := ⟨b, o, none⟩) hb v)

/-- The keys of the ids. -/
theorem keyed40 : Keyed Yba.prog 40 := Keyed.of_law (deep_law_laid (m := 9) (by kernel_rfl) (by omega) (of_decide_eq_true (by kernel_rfl)) (by kernel_rfl) (by kernel_rfl))

def IsKl (kl : Nat → Lit) : Prop := ∀ k, k < 4 → keyOf Yba.prog 40 (.agg (idk k).toArray) = some (kl k)
theorem key0 : (keyOf Yba.prog 40 (.agg (idk 0).toArray)).isSome = true := by kernel_rfl
theorem key1 : (keyOf Yba.prog 40 (.agg (idk 1).toArray)).isSome = true := by kernel_rfl
theorem key2 : (keyOf Yba.prog 40 (.agg (idk 2).toArray)).isSome = true := by kernel_rfl
theorem key3 : (keyOf Yba.prog 40 (.agg (idk 3).toArray)).isSome = true := by kernel_rfl
theorem ex_kl : ∃ kl, IsKl kl := by
  obtain ⟨l0, h0⟩ := Option.isSome_iff_exists.1 key0
  obtain ⟨l1, h1⟩ := Option.isSome_iff_exists.1 key1
  obtain ⟨l2, h2⟩ := Option.isSome_iff_exists.1 key2
  obtain ⟨l3, h3⟩ := Option.isSome_iff_exists.1 key3
  refine ⟨fun k => if k = 0 then l0 else if k = 1 then l1 else if k = 2 then l2 else l3, fun k h => ?_⟩
  have h4 : k = 0 ∨ k = 1 ∨ k = 2 ∨ k = 3 := by omega
  rcases h4 with e | e | e | e <;> subst e
  · exact h0
  · exact h1
  · exact h2
  · exact h3
theorem idk_inj (k j : Nat) (e : idk k = idk j) : k = j := by
  have h2 : (idk k)[0]? = (idk j)[0]? := by rw [e]
  have z := zid_len
  simp only [idk, List.getElem?_set, List.length_set, z] at h2
  simp at h2
  omega
theorem kl_ne {kl : Nat → Lit} (hkl : IsKl kl) {k j : Nat} (h : k < 4) (h' : j < 4) (hne : k ≠ j) : kl k ≠ kl j := by
  intro e
  have h1 := hkl k h
  have h2 := hkl j h'
  rw [← e] at h2
  have h3 : Value.agg (idk k).toArray = Value.agg (idk j).toArray := keyed40.inj h1 h2
  injection h3 with h3
  exact hne (idk_inj k j (by simpa using h3))
theorem zero102 (w : World) : (zeroValue 102).run Yba.prog w = .ok (.int .u32 0) w := by kernel_rfl
end Go.Proofs.Ybulkamjs
