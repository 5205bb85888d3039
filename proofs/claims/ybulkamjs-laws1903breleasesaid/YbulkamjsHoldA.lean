/- (*Directory).hold of an id that the directory holds. -/
import Derived.Test.YbulkamjsDir
namespace Go.Proofs.Ybulkamjs
open Go.RowKit Go.Maps Go.WideMaps Go.MuLone
attribute [-simp] Yba.zeroValue40 Yba.typeInfo40
attribute [-go_sem] loadCells
attribute [local simp] zero40

set_option maxRecDepth 20000 in
set_option maxHeartbeats 2000000 in
theorem hold_found (d m N gr n cap i r : Nat) (I F : Value) (C : Array Value) (D : DataW Unit) (X : List Value) (kl : Lit) (w : World)
    (hd : w.heap[d]? = some (dirObj 0 I (.slice (some ⟨gr, 0, none⟩) n cap) m F))
    (hown : w.ownsMap Yba.prog 40 (plainElem Yba.prog 102) m N D) (hX : X.length = 64) (hkey : keyOf Yba.prog 40 (.agg X.toArray) = some kl)
    (hhas : Maps.has D kl = true) (hat : D.atKey kl (.lit (.int .u32 0)) = .lit (.int .u32 i)) (hi : i < n) (hr : w.heap[gr]? = some (.cells C 102 (0, 0))) (hdg : gr ≠ d)
    (hC : C[i]? = some (.int .u32 r)) (hrb : r < 100000) :
    Calls Yba.prog 17 #[.pointer (some ⟨d, 0, none⟩), .agg X.toArray] w fun e w' => e = .returned (.int .u32 i) ∧
      w'.heap[gr]? = some (.cells (C.setIfInBounds i (.int .u32 (r + 1))) 102 (0, 0)) ∧ Kept (fun k => k = gr) w w' := by
  have c0 := dir0 hd
  have f0 := dirF hd 0
  have hdm : m ≠ d := ownsMap_ne hown hd
  have hmg : m ≠ gr := ownsMap_ne hown hr
  have hdlt : d < w.heap.size := lt_of_heap hd
  have hglt : gr < w.heap.size := lt_of_heap hr
  have Hd : Hid (w.heap[d]? = some (dirObj 0 I (.slice (some ⟨gr, 0, none⟩) n cap) m F)) := hd
  have Hr : Hid (w.heap[gr]? = some (.cells C 102 (0, 0))) := hr
  have Hhas : Hid (Maps.has D kl = true) := hhas
  have Hat : Hid (D.atKey kl (.lit (.int .u32 0)) = .lit (.int .u32 i)) := hat
  have HC : Hid (C[i]? = some (.int .u32 r)) := hC
  clear hd hr hhas hat hC
  go_enter_defers Yba.func17, Yba.ntmps17
  go_wp2_with (go_at_call 32; refine (lock_free Yba.muLib ⟨d, 0, none⟩ _ (by go_simp) (by go_simp)).mono ?_; rintro e w' ⟨rfl, rfl⟩)
  generalize hW : (w.setCell ⟨d, 0, none⟩ (.int .i32 1)).alloc (.cells X.toArray 40 (0, 0)) = W
  have hW' : Hid _ := hW
  clear hW
  have hK : Hid (Kept (fun k => k = d) w W) := by
    rw [← hW'.out]
    exact ((Kept.refl (fun k => k = d) w).setCell ⟨d, 0, none⟩ (fun _ => rfl) _).alloc _
  have hdW : W.heap[d]? = some (dirObj 1 I (.slice (some ⟨gr, 0, none⟩) n cap) m F) := by
    rw [← hW'.out, (MapKept.heap_alloc _ _).2 d (by simpa [World.setCell] using hdlt)]
    exact dir_lock Hd.out 1
  have hrW : W.heap[gr]? = some (.cells C 102 (0, 0)) := (hK.out.block gr hglt hdg).trans Hr.out
  have ho : W.drew.ownsMap Yba.prog 40 (plainElem Yba.prog 102) m N D :=
    ownsMap_heap hown (hK.out.block m (ownsMap_lt hown) hdm)
  have k0 := dir0 hdW
  have k3 := dir3 hdW
  have k4 := dir4 hdW
  have kf := dirF hdW 0
  have kr : W.cell? ⟨gr, i, none⟩ = some (.int .u32 r) := by rw [cell_of_row W gr i _ 102 (0, 0) hrW]; exact HC.out
  have krf : W.frozen? ⟨gr, i, none⟩ = false := by simp [World.frozen?, hrW]
  have HdW : Hid (W.heap[d]? = some (dirObj 1 I (.slice (some ⟨gr, 0, none⟩) n cap) m F)) := hdW
  have HrW : Hid (W.heap[gr]? = some (.cells C 102 (0, 0))) := hrW
  clear hdW hrW
  have hl : (loadCells ⟨w.heap.size, 0, none⟩ 64).run Yba.prog W.drew = .ok X.toArray W.drew := by
    refine lc40_block (t := 40) (fr := (0, 0)) ?_ hX
    show W.heap[w.heap.size]? = _
    rw [← hW'.out]
    have := (MapKept.heap_alloc (w.setCell ⟨d, 0, none⟩ (.int .i32 1)) (.cells X.toArray 40 (0, 0))).1
    simpa [World.setCell] using this
  obtain ⟨v, ps, hlk, hv⟩ := ho.look_ok keyed40 Yba.underlying112 (zero102 _) (plainElem_int Yba.underlying102 (by decide)) hkey
  obtain ⟨c, rfl, hat, hwc⟩ := plainElem_int_inv Yba.underlying102 hv
  have hci : c = (i : Int) := by
    have := congrArg Prod.fst hat
    rw [Hat.out] at this
    injection this with h1
    injection h1 with h1 h2
    exact h2.symm
  subst hci
  rw [Hhas.out] at hlk
  clear c0 f0 hv hown ho hat
  refine wp_region_still_lit (by kernel_rfl) (by kernel_rfl) ?_
  change wpStill _ _ W.drew _ _ _
  repeat still_step
  refine wpStill_nil ?_
  change Exit.then _ _ _ _ W.drew
  have hi' : ((i : Nat) : Int) < n := by omega
  go_wp2
  have hne : (⟨gr, i, none⟩ : Addr) ≠ ⟨d, 0, none⟩ := fun e => hdg (by injection e)
  refine leaves_cons (f := 33) (args := #[.pointer (some ⟨d, 0, none⟩)]) (by simp) (by simp [go_sem]) ?_
  refine (unlock_deferred Yba.muLib ⟨d, 0, none⟩ .returning _ ?_ ?_).mono ?_
  · show (W.setCell ⟨gr, i, none⟩ (.int .u32 (r + 1))).cell? ⟨d, 0, none⟩ = _
    rw [World.cell?_setCell_other _ _ _ _ hne]; exact k0
  · show (W.setCell ⟨gr, i, none⟩ (.int .u32 (r + 1))).frozen? ⟨d, 0, none⟩ = _
    simpa using kf
  rintro e u' w'' ⟨rfl, rfl, rfl⟩
  refine ⟨_, results_tmp rfl _ _ _, rfl, ?_, ?_⟩
  · rw [Below.heap_setCell _ _ _ _ hdg]
    exact heap_setCell_same W gr i C 102 _ HrW.out
  · have hKd : Kept (fun k => k = gr ∨ k = d) w (((W.setCell ⟨gr, i, none⟩ (.int .u32 (r + 1))).drew).setCell ⟨d, 0, none⟩ (.int .i32 0)) :=
      (((hK.out.mono (own' := fun k => k = gr ∨ k = d) (fun _ _ h => .inr h)).setCell ⟨gr, i, none⟩ (fun _ => .inl rfl) _).drew).setCell ⟨d, 0, none⟩ (fun _ => .inr rfl) _
    refine ⟨hKd.os, hKd.tape, hKd.output, hKd.size, fun k hk hn => ?_⟩
    by_cases e : k = d
    · subst e
      have h1 : ((W.setCell ⟨gr, i, none⟩ (.int .u32 (r + 1))).drew).heap[k]? = some (dirObj 1 I (.slice (some ⟨gr, 0, none⟩) n cap) m F) :=
        (Below.heap_setCell W ⟨gr, i, none⟩ _ k (fun e => hdg e.symm)).trans HdW.out
      rw [Hd.out]; exact dir_lock h1 0
    · exact hKd.block k hk (fun h => h.elim hn e)
end Go.Proofs.Ybulkamjs
