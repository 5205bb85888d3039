/- (*Directory).number, the lock free. -/
import Derived.Test.YbulkamjsDir
namespace Go.Proofs.Ybulkamjs
open Go.RowKit Go.Maps Go.WideMaps Go.MuLone
attribute [-simp] Yba.zeroValue40 Yba.typeInfo40
attribute [-go_sem] loadCells
attribute [local simp] zero40

set_option maxRecDepth 20000 in
set_option maxHeartbeats 2000000 in
theorem number_any (d m N : Nat) (I R F : Value) (D : DataW Unit) (X : List Value) (kl : Lit) (w : World)
    (hd : w.heap[d]? = some (dirObj 0 I R m F))
    (hown : w.ownsMap Yba.prog 40 (plainElem Yba.prog 102) m N D) (hX : X.length = 64) (hkey : keyOf Yba.prog 40 (.agg X.toArray) = some kl) :
    Calls Yba.prog 18 #[.pointer (some ⟨d, 0, none⟩), .agg X.toArray] w fun e w' => ∃ c, e = .returned (.tuple #[.int .u32 c, .bool (Maps.has D kl)]) ∧
      D.atKey kl (.lit (.int .u32 0)) = .lit (.int .u32 c) ∧ Below w.heap.size w w' := by
  have c0 := dir0 hd
  have c4 := dir4 hd
  have f0 := dirF hd 0
  have hdm : m ≠ d := ownsMap_ne hown hd
  have hdlt : d < w.heap.size := lt_of_heap hd
  have Hd : Hid (w.heap[d]? = some (dirObj 0 I R m F)) := hd
  clear hd
  generalize hB : Maps.has D kl = B
  have HB : Hid (Maps.has D kl = B) := hB
  clear hB
  go_enter_defers Yba.func18, Yba.ntmps18
  go_wp2_with (go_at_call 32; refine (lock_free Yba.muLib ⟨d, 0, none⟩ _ (by go_simp) (by go_simp)).mono ?_; rintro e w' ⟨rfl, rfl⟩)
  generalize hW : (w.setCell ⟨d, 0, none⟩ (.int .i32 1)).alloc (.cells X.toArray 40 (0, 0)) = W
  have hW' : Hid _ := hW
  clear hW
  have hdW : W.heap[d]? = some (dirObj 1 I R m F) := by
    rw [← hW'.out, (MapKept.heap_alloc _ _).2 d (by simpa [World.setCell] using hdlt)]
    exact dir_lock Hd.out 1
  have hK : Hid (Kept (fun k => k = d) w W) := by
    rw [← hW'.out]
    exact ((Kept.refl (fun k => k = d) w).setCell ⟨d, 0, none⟩ (fun _ => rfl) _).alloc _
  have ho : W.drew.ownsMap Yba.prog 40 (plainElem Yba.prog 102) m N D :=
    ownsMap_heap hown (hK.out.block m (ownsMap_lt hown) hdm)
  have k0 := dir0 hdW
  have k4 := dir4 hdW
  have kf := dirF hdW 0
  have HdW : Hid (W.heap[d]? = some (dirObj 1 I R m F)) := hdW
  clear hdW
  have hl : (loadCells ⟨w.heap.size, 0, none⟩ 64).run Yba.prog W.drew = .ok X.toArray W.drew := by
    refine lc40_block (t := 40) (fr := (0, 0)) ?_ hX
    show W.heap[w.heap.size]? = _
    rw [← hW'.out]
    have := (MapKept.heap_alloc (w.setCell ⟨d, 0, none⟩ (.int .i32 1)) (.cells X.toArray 40 (0, 0))).1
    simpa [World.setCell] using this
  obtain ⟨v, ps, hlk, hv⟩ := ho.look_ok keyed40 Yba.underlying112 (zero102 _) (plainElem_int Yba.underlying102 (by decide)) hkey
  obtain ⟨c, rfl, hat, hwc⟩ := plainElem_int_inv Yba.underlying102 hv
  rw [HB.out] at hlk
  have Hat : Hid _ := hat
  clear c0 f0 c4 hv hown ho hat
  refine wp_region_still_lit (by kernel_rfl) (by kernel_rfl) ?_
  change wpStill _ _ W.drew _ _ _
  repeat still_step
  refine wpStill_nil ?_
  change Exit.then _ _ _ _ W.drew
  go_wp2
  refine leaves_cons (f := 33) (args := #[.pointer (some ⟨d, 0, none⟩)]) (by simp) (by simp [go_sem]) ?_
  refine (unlock_deferred Yba.muLib ⟨d, 0, none⟩ .returning _ (by simpa using k0) (by simpa using kf)).mono ?_
  rintro e u' w'' ⟨rfl, rfl, rfl⟩
  refine ⟨_, results_tmp2 rfl _ _ _, c, rfl, congrArg Prod.fst Hat.out, ?_⟩
  have hKd := (hK.out.drew).setCell ⟨d, 0, none⟩ (fun _ => rfl) (.int .i32 0)
  refine ⟨hKd.os, hKd.tape, hKd.output, hKd.size, fun k hk => ?_⟩
  by_cases e : k = d
  · subst e; rw [Hd.out]; exact dir_lock (w := W.drew) HdW.out 0
  · exact hKd.block k hk e
end Go.Proofs.Ybulkamjs
