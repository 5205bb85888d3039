/- zzs1903bid: the id of a number of the script. -/
import Derived.Test.YbulkamjsIds
namespace Go.Proofs.Ybulkamjs
open Go.RowKit
attribute [-simp] Yba.zeroValue40 Yba.typeInfo40
attribute [-go_sem] loadCells
attribute [local simp] zero40
attribute [local irreducible] zid

set_option maxRecDepth 20000 in
set_option maxHeartbeats 1000000 in
theorem bid_any (k : Nat) (w : World) (h1 : k ≤ 3) :
    Calls Yba.prog 16 #[.int .i64 k] w fun e w' => e = .returned (.agg (idk k).toArray) ∧ Below w.heap.size w w' := by
  have z0 := zid_get 0 (by omega)
  have z63 := zid_get 63 (by omega)
  have hlen := idk_len k
  have hk : Hid (idk k = (zid.set 0 (Value.int IntKind.u8 (k + 1))).set 63 (Value.int IntKind.u8 (k * 7))) := rfl
  have hl : ∀ W : World, W.heap.size = w.heap.size + 1 → (loadCells ⟨w.heap.size + 1, 0, none⟩ 64).run Yba.prog (W.alloc (Obj.cells ((zid.set 0 (Value.int IntKind.u8 (k + 1))).set 63 (Value.int IntKind.u8 (k * 7))).toArray 40)) = .ok (idk k).toArray (W.alloc (Obj.cells ((zid.set 0 (Value.int IntKind.u8 (k + 1))).set 63 (Value.int IntKind.u8 (k * 7))).toArray 40)) := by
    intro W hW
    refine lc40_block (t := 40) (fr := (0, 0)) ?_ (idk_len k)
    rw [← hW]
    exact (MapKept.heap_alloc W _).1
  have hl1 := hl (w.alloc (Obj.cells zid.toArray 40)) (by simp)
  generalize hW2 : (w.alloc (Obj.cells zid.toArray 40)).alloc (Obj.cells ((zid.set 0 (Value.int IntKind.u8 (k + 1))).set 63 (Value.int IntKind.u8 (k * 7))).toArray 40) = W2 at hl1
  have hb2 : W2.heap[w.heap.size]? = some (.cells zid.toArray 40 (0, 0)) := by
    rw [← hW2, (MapKept.heap_alloc _ _).2 _ (by simp)]; exact (MapKept.heap_alloc w _).1
  have hs := sc40 (X := idk k) (there_block hb2 0 64 (by simp [zid_len])) hlen (idk_all k)
  have hl2 := lc40 (World.rangeAt_setCells_same W2 w.heap.size 0 (idk k) (by rw [hlen]; exact there_block hb2 0 64 (by simp [zid_len]))) hlen
  have hbel : Below w.heap.size w (W2.setCells w.heap.size 0 (idk k)) := by
    have h1 : Below w.heap.size w W2 := by
      rw [← hW2]; exact ((Below.refl _ w).alloc (Nat.le_refl _) _).alloc (by simp) _
    exact Below_setCells _ (Nat.le_refl _) _ _ _ h1
  clear hl hb2
  have hW2' : Hid _ := hW2
  clear hW2
  go_enter Yba.func16, Yba.ntmps16
  go_wp2
  rw [hW2'.out]
  go_simp
  go_wp2
  refine bodyPost_ret (v := Value.agg (idk k).toArray) ?_ rfl ⟨rfl, hbel⟩
  simp [results, Yba.results16, go_sem, hl2]
end Go.Proofs.Ybulkamjs
