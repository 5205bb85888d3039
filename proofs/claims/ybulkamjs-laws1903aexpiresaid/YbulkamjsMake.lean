/- zzs1903akey, newStore, newLookups. -/
import Derived.Test.YbulkamjsStats
namespace Go.Proofs.Ybulkamjs
open Go.RowKit Go.Maps Go.WideMaps
set_option linter.unusedSimpArgs false
set_option linter.unusedVariables false
section
attribute [-simp] Yba.zeroValue40 Yba.typeInfo40
attribute [-go_sem] loadCells
attribute [local simp] zero40
attribute [local irreducible] zid

theorem byte_hi (i : Nat) (h : i < 65536) : IntKind.u8.wrap ((i : Int) / 256) = ((i / 256 : Nat) : Int) := by
  rw [show ((i : Int) / 256) = ((i / 256 : Nat) : Int) by omega, IntWalk.u8_in _ (by omega)]
theorem byte_lo (i : Nat) : IntKind.u8.wrap (i : Int) = ((i % 256 : Nat) : Int) := by
  rw [IntKind.wrap_u8]; omega

set_option maxRecDepth 20000 in
set_option maxHeartbeats 1000000 in
theorem akey (i : Nat) (w : World) (hi : i < 65536) :
    Calls Yba.prog 10 #[.int .i64 i] w fun e w' => e = .returned (.agg (aid i).toArray) ∧ Below w.heap.size w w' := by
  have z0 := zid_get 0 (by omega)
  have z1 := zid_get 1 (by omega)
  have hlen := aid_len i
  have eA : aid i = (zid.set 0 (.int .u8 ((i : Int) / 256))).set 1 (.int .u8 ((i : Int) % 256)) := by
    unfold aid
    rw [show (((i / 256 : Nat) : Nat) : Int) = (i : Int) / 256 by omega, show (((i % 256 : Nat) : Nat) : Int) = (i : Int) % 256 by omega]
  have hl : ∀ W : World, W.heap.size = w.heap.size + 1 → (loadCells ⟨w.heap.size + 1, 0, none⟩ 64).run Yba.prog (W.alloc (Obj.cells ((zid.set 0 (.int .u8 ((i : Int) / 256))).set 1 (.int .u8 ((i : Int) % 256))).toArray 40)) = .ok (aid i).toArray (W.alloc (Obj.cells ((zid.set 0 (.int .u8 ((i : Int) / 256))).set 1 (.int .u8 ((i : Int) % 256))).toArray 40)) := by
    intro W hW
    rw [← eA]
    refine lc40_block (t := 40) (fr := (0, 0)) ?_ (aid_len i)
    rw [← hW]
    exact (MapKept.heap_alloc W _).1
  have hl1 := hl (w.alloc (Obj.cells zid.toArray 40)) (by simp)
  generalize hW2 : (w.alloc (Obj.cells zid.toArray 40)).alloc (Obj.cells ((zid.set 0 (.int .u8 ((i : Int) / 256))).set 1 (.int .u8 ((i : Int) % 256))).toArray 40) = W2 at hl1
  have hb2 : W2.heap[w.heap.size]? = some (.cells zid.toArray 40 (0, 0)) := by
    rw [← hW2, (MapKept.heap_alloc _ _).2 _ (by simp)]; exact (MapKept.heap_alloc w _).1
  have hs := sc40 (X := aid i) (there_block hb2 0 64 (by simp [zid_len])) hlen (aid_one i)
  have hl2 := lc40 (World.rangeAt_setCells_same W2 w.heap.size 0 (aid i) (by rw [hlen]; exact there_block hb2 0 64 (by simp [zid_len]))) hlen
  have hbel : Below w.heap.size w (W2.setCells w.heap.size 0 (aid i)) := by
    have h1 : Below w.heap.size w W2 := by
      rw [← hW2]; exact ((Below.refl _ w).alloc (Nat.le_refl _) _).alloc (by simp) _
    exact Below_setCells _ (Nat.le_refl _) _ _ _ h1
  clear hl hb2 eA
  have hW2' : Hid _ := hW2
  clear hW2
  go_enter Yba.func10, Yba.ntmps10
  go_wp2
  rw [hW2'.out]
  go_simp
  go_wp2
  refine bodyPost_ret (v := Value.agg (aid i).toArray) ?_ rfl ⟨rfl, hbel⟩
  simp [results, Yba.results10, go_sem, hl2]
end
theorem new_store (w : World) : Calls Yba.prog 9 #[.int .i64 1073741824] w fun e w' => e = .returned (.pointer (some ⟨w.heap.size, 0, none⟩)) ∧ w' = w.alloc (.cells #[.int .i64 1073741824, .int .i64 0, .map none, .map none, .slice none 0 0, .int .u64 0] 38 (0, 0)) := by
  go_enter Yba.func9, Yba.ntmps9
  go_wp2
  go_ret
  exact ⟨rfl, rfl⟩
theorem new_lookups (w : World) : Calls Yba.prog 12 #[] w fun e w' => e = .returned (.pointer (some ⟨w.heap.size + 2, 0, none⟩)) ∧ w' = ((w.alloc (.map #[] 0)).alloc (.map #[] 0)).alloc (lkObj w.heap.size (w.heap.size + 1) (.slice none 0 0)) := by
  have h1 : ∀ W : World, (Instr.makeMap 64 none).run Yba.prog W = .ok (.map (some W.heap.size)) (W.alloc (.map #[] 0)) := fun W => by kernel_rfl
  have h2 : ∀ W : World, (Instr.makeMap 67 none).run Yba.prog W = .ok (.map (some W.heap.size)) (W.alloc (.map #[] 0)) := fun W => by kernel_rfl
  go_enter Yba.func12, Yba.ntmps12
  go_wp2

  go_ret
  exact ⟨rfl, rfl⟩
end Go.Proofs.Ybulkamjs
