/- The directory's object in memory, and what a walk over its methods leaves of the world. -/
import Derived.Test.YbulkamjsIds
import Derived.Conc.MuLone
import Derived.StillTactics
import Derived.StillTailTactics
namespace Go.Proofs.Ybulkamjs
open Go.RowKit Go.Maps Go.WideMaps Go.MuLone

/-- The directory: the lock's two cells, ids, refs, numbers, free. -/
def dirObj (l : Int) (I R : Value) (m : Nat) (F : Value) : Obj := .cells #[.int .i32 l, .int .u32 0, I, R, .map (some m), F] 114 (0, 0)

section
variable {w : World} {d m : Nat} {l : Int} {I R F : Value}
theorem dir0 (h : w.heap[d]? = some (dirObj l I R m F)) : w.cell? ⟨d, 0, none⟩ = some (.int .i32 l) := by rw [cell_of_row w d 0 _ 114 (0, 0) h]; rfl
theorem dir2 (h : w.heap[d]? = some (dirObj l I R m F)) : w.cell? ⟨d, 2, none⟩ = some I := by rw [cell_of_row w d 2 _ 114 (0, 0) h]; rfl
theorem dir3 (h : w.heap[d]? = some (dirObj l I R m F)) : w.cell? ⟨d, 3, none⟩ = some R := by rw [cell_of_row w d 3 _ 114 (0, 0) h]; rfl
theorem dir4 (h : w.heap[d]? = some (dirObj l I R m F)) : w.cell? ⟨d, 4, none⟩ = some (.map (some m)) := by rw [cell_of_row w d 4 _ 114 (0, 0) h]; rfl
theorem dir5 (h : w.heap[d]? = some (dirObj l I R m F)) : w.cell? ⟨d, 5, none⟩ = some F := by rw [cell_of_row w d 5 _ 114 (0, 0) h]; rfl
theorem dirF (h : w.heap[d]? = some (dirObj l I R m F)) (o : Nat) : w.frozen? ⟨d, o, none⟩ = false := by simp [World.frozen?, h, dirObj]
theorem dir_lock (h : w.heap[d]? = some (dirObj l I R m F)) (l' : Int) : (w.setCell ⟨d, 0, none⟩ (.int .i32 l')).heap[d]? = some (dirObj l' I R m F) := by
  rw [heap_setCell_same w d 0 _ 114 _ h]; rfl
theorem dir_ids (h : w.heap[d]? = some (dirObj l I R m F)) (I' : Value) : (w.setCell ⟨d, 2, none⟩ I').heap[d]? = some (dirObj l I' R m F) := by
  rw [heap_setCell_same w d 2 _ 114 _ h]; rfl
theorem dir_refs (h : w.heap[d]? = some (dirObj l I R m F)) (R' : Value) : (w.setCell ⟨d, 3, none⟩ R').heap[d]? = some (dirObj l I R' m F) := by
  rw [heap_setCell_same w d 3 _ 114 _ h]; rfl
theorem dir_free (h : w.heap[d]? = some (dirObj l I R m F)) (F' : Value) : (w.setCell ⟨d, 5, none⟩ F').heap[d]? = some (dirObj l I R m F') := by
  rw [heap_setCell_same w d 5 _ 114 _ h]; rfl
end

theorem lt_of_heap {w : World} {b : Nat} {o : Obj} (h : w.heap[b]? = some o) : b < w.heap.size := by
  rcases Nat.lt_or_ge b w.heap.size with h' | h'
  · exact h'
  · rw [Array.getElem?_eq_none h'] at h; cases h

/-- The world w' is w but for the blocks of 'own' and for new ones. -/
structure Kept (own : Nat → Prop) (w w' : World) : Prop where
  os : w'.os = w.os
  tape : w'.tape = w.tape
  output : w'.output = w.output
  size : w.heap.size ≤ w'.heap.size
  block : ∀ k, k < w.heap.size → ¬ own k → w'.heap[k]? = w.heap[k]?

theorem Kept.refl (own : Nat → Prop) (w : World) : Kept own w w := ⟨rfl, rfl, rfl, Nat.le_refl _, fun _ _ _ => rfl⟩
theorem Kept.trans {own own' : Nat → Prop} {a b c : World} (h : Kept own a b) (k : Kept own' b c) (hs : ∀ i, i < a.heap.size → own' i → own i) : Kept own a c :=
  ⟨k.os.trans h.os, k.tape.trans h.tape, k.output.trans h.output, Nat.le_trans h.size k.size, fun i hi hn => (k.block i (Nat.lt_of_lt_of_le hi h.size) (fun h' => hn (hs i hi h'))).trans (h.block i hi hn)⟩
theorem Kept.mono {own own' : Nat → Prop} {a b : World} (h : Kept own a b) (hs : ∀ i, i < a.heap.size → own i → own' i) : Kept own' a b :=
  ⟨h.os, h.tape, h.output, h.size, fun i hi hn => h.block i hi (fun h' => hn (hs i hi h'))⟩
theorem Kept.drew {own : Nat → Prop} {a w : World} (h : Kept own a w) : Kept own a w.drew := ⟨h.os, h.tape, h.output, h.size, h.block⟩
theorem Kept.alloc {own : Nat → Prop} {a w : World} (h : Kept own a w) (o : Obj) : Kept own a (w.alloc o) :=
  h.trans (own' := fun _ => False) ⟨rfl, rfl, rfl, by simp, fun k hk _ => Below.heap_alloc _ _ _ hk⟩ (fun _ _ h => h.elim)
theorem Kept.setCell {own : Nat → Prop} {a w : World} (h : Kept own a w) (p : Addr) (hp : p.block < a.heap.size → own p.block) (u : Value) : Kept own a (w.setCell p u) :=
  h.trans (own' := fun k => k = p.block) ⟨rfl, rfl, rfl, by simp [World.setCell], fun k _ hk => Below.heap_setCell _ _ _ _ hk⟩ (fun i hi h => h ▸ hp (h ▸ hi))
theorem Kept.setCells {own : Nat → Prop} {a : World} (b : Nat) (hp : b < a.heap.size → own b) : ∀ (vs : List Value) (o : Nat) (w : World), Kept own a w → Kept own a (w.setCells b o vs)
  | [], _, _, h => h
  | v :: r, o, w, h => by rw [World.setCells]; exact Kept.setCells b hp r _ _ (h.setCell ⟨b, o, none⟩ hp v)
theorem Kept.grown {own : Nat → Prop} {a w w' : World} {row : Option Nat} (h : Kept own a w) (hg : w.grownBy w' row) (hr : ∀ k, row = some k → k < a.heap.size → own k) : Kept own a w' :=
  h.trans (own' := fun k => row = some k) ⟨hg.os, hg.tape, hg.output, hg.size, fun k hk hn => hg.block k hk (fun e => hn e.symm)⟩ (fun i hi e => hr i e hi)
theorem Kept.below {own : Nat → Prop} {a w : World} {B : Nat} (h : Kept own a w) (hB : ∀ k, own k → B ≤ k) (hs : B ≤ a.heap.size) : Below B a w :=
  ⟨h.os, h.tape, h.output, h.size, fun k hk => h.block k (by omega) (fun ho => by have := hB k ho; omega)⟩

/-- What a store of many cells leaves of a row. -/
def putA : Array Value → Nat → List Value → Array Value
  | C, _, [] => C
  | C, o, v :: r => putA (C.setIfInBounds o v) (o + 1) r
theorem heap_putA {b : Nat} {t : TypeId} : ∀ (vs : List Value) (o : Nat) (w : World) (C : Array Value), w.heap[b]? = some (.cells C t (0, 0)) → (w.setCells b o vs).heap[b]? = some (.cells (putA C o vs) t (0, 0))
  | [], _, _, _, h => h
  | v :: r, o, w, C, h => by
    rw [World.setCells]
    exact heap_putA r (o + 1) _ _ (heap_setCell_same w b o C t v h)
theorem size_putA : ∀ (vs : List Value) (o : Nat) (C : Array Value), (putA C o vs).size = C.size
  | [], _, _ => rfl
  | v :: r, o, C => by rw [putA, size_putA r]; simp
theorem get_putA : ∀ (vs : List Value) (o : Nat) (C : Array Value) (j : Nat), o + vs.length ≤ C.size → (putA C o vs)[j]? = if o ≤ j ∧ j < o + vs.length then vs[j - o]? else C[j]?
  | [], o, C, j, _ => by rw [putA, if_neg (by simp)]
  | v :: r, o, C, j, h => by
    simp only [List.length_cons] at h
    rw [putA, get_putA r (o + 1) _ j (by simp; omega)]
    by_cases h1 : o + 1 ≤ j ∧ j < o + 1 + r.length
    · rw [if_pos h1, if_pos (by simp; omega), show j - o = (j - (o + 1)) + 1 by omega, List.getElem?_cons_succ]
    · rw [if_neg h1]
      by_cases h2 : j = o
      · subst h2
        rw [if_pos (by simp), Nat.sub_self, Array.getElem?_setIfInBounds, if_pos rfl, if_pos (by omega)]; rfl
      · rw [if_neg (by simp; omega), Array.getElem?_setIfInBounds, if_neg (fun e => h2 e.symm)]

theorem ownsMap_heap {w w' : World} {P : Program} {k : TypeId} {R : Value → Option (DataW Unit × List MemPlace)} {b n : Nat} {D : DataW Unit} (h : w.ownsMap P k R b n D) (he : w'.heap[b]? = w.heap[b]?) : w'.ownsMap P k R b n D := by
  obtain ⟨es, clock, hb, r⟩ := h
  exact ⟨es, clock, he.trans hb, r⟩
theorem ownsMap_lt {w : World} {P : Program} {k : TypeId} {R : Value → Option (DataW Unit × List MemPlace)} {b n : Nat} {D : DataW Unit} (h : w.ownsMap P k R b n D) : b < w.heap.size := by
  obtain ⟨es, clock, hb, r⟩ := h
  exact lt_of_heap hb
theorem ownsMap_ne {w : World} {P : Program} {k : TypeId} {R : Value → Option (DataW Unit × List MemPlace)} {b n : Nat} {D : DataW Unit} (h : w.ownsMap P k R b n D) {g : Nat} {C : Array Value} {t : TypeId} {fr : Nat × Nat} (hg : w.heap[g]? = some (.cells C t fr)) : b ≠ g := by
  rintro rfl
  obtain ⟨es, clock, hb, r⟩ := h
  rw [hg] at hb; cases hb

end Go.Proofs.Ybulkamjs
