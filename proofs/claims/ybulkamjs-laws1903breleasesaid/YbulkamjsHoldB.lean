/- (*Directory).hold of an id that is new: a free number is taken. -/
import Derived.Test.YbulkamjsDir
namespace Go.Proofs.Ybulkamjs
open Go.RowKit Go.Maps Go.WideMaps Go.MuLone
attribute [-simp] Yba.zeroValue40 Yba.typeInfo40
attribute [-go_sem] loadCells
attribute [local simp] zero40


/-- What the loads of the region that takes a free number read, and what its stores want. -/
theorem s10_drew {d N gi o : Nat} {I R : Value} {X : List Value} {w : World} (h : w.cell? ⟨d, 2, none⟩ = some I ∧ w.cell? ⟨d, 3, none⟩ = some R ∧ w.rangeAt N 0 X ∧ w.there gi o 64) :
    w.drew.cell? ⟨d, 2, none⟩ = some I ∧ w.drew.cell? ⟨d, 3, none⟩ = some R ∧ w.drew.rangeAt N 0 X ∧ w.drew.there gi o 64 := h
theorem s10_many {d N gi o : Nat} {I R : Value} {X : List Value} {w : World} (hd : gi ≠ d) (hN : N ≠ gi) (vs : List Value) (h : w.cell? ⟨d, 2, none⟩ = some I ∧ w.cell? ⟨d, 3, none⟩ = some R ∧ w.rangeAt N 0 X ∧ w.there gi o 64) :
    (w.setCells gi o vs).cell? ⟨d, 2, none⟩ = some I ∧ (w.setCells gi o vs).cell? ⟨d, 3, none⟩ = some R ∧ (w.setCells gi o vs).rangeAt N 0 X ∧ (w.setCells gi o vs).there gi o 64 := by
  obtain ⟨h1, h2, h3, h4⟩ := h
  refine ⟨?_, ?_, World.rangeAt_setCells_apart h3 _ _ _ (.inl hN), World.there_setCells h4 _ _ _⟩
  · rw [World.cell?_setCells_out gi vs o w ⟨d, 2, none⟩ (fun hb _ => absurd hb.symm hd)]; exact h1
  · rw [World.cell?_setCells_out gi vs o w ⟨d, 3, none⟩ (fun hb _ => absurd hb.symm hd)]; exact h2
theorem s10_one {d N gi gr i o : Nat} {I R : Value} {X : List Value} {w : World} (hd : gr ≠ d) (hN : N ≠ gr) (hi : gi ≠ gr) (u : Value) (h : w.cell? ⟨d, 2, none⟩ = some I ∧ w.cell? ⟨d, 3, none⟩ = some R ∧ w.rangeAt N 0 X ∧ w.there gi o 64) :
    (w.setCell ⟨gr, i, none⟩ u).cell? ⟨d, 2, none⟩ = some I ∧ (w.setCell ⟨gr, i, none⟩ u).cell? ⟨d, 3, none⟩ = some R ∧ (w.setCell ⟨gr, i, none⟩ u).rangeAt N 0 X ∧ (w.setCell ⟨gr, i, none⟩ u).there gi o 64 := by
  obtain ⟨h1, h2, h3, h4⟩ := h
  have ne : ∀ b o', gr ≠ b → (w.setCell ⟨gr, i, none⟩ u).cell? ⟨b, o', none⟩ = w.cell? ⟨b, o', none⟩ := fun b o' hb =>
    World.cell?_of_block (Below.heap_setCell w ⟨gr, i, none⟩ u b (fun e => hb e.symm))
  refine ⟨(ne _ _ hd).trans h1, (ne _ _ hd).trans h2, fun j v hv => (ne _ _ (fun e => hN e.symm)).trans (h3 j v hv), fun j hj => ?_⟩
  rw [ne _ _ (fun e => hi e.symm)]
  exact ⟨(h4 j hj).1, by simpa using (h4 j hj).2⟩

set_option maxRecDepth 20000 in
set_option maxHeartbeats 4000000 in
theorem hold_free (d m N gi gr gf n capi capr f capf i : Nat) (CI CR CF : Array Value) (D : DataW Unit) (X : List Value) (kl : Lit) (w : World)
    (hd : w.heap[d]? = some (dirObj 0 (.slice (some ⟨gi, 0, none⟩) n capi) (.slice (some ⟨gr, 0, none⟩) n capr) m (.slice (some ⟨gf, 0, none⟩) (f + 1) capf)))
    (hown : w.ownsMap Yba.prog 40 (plainElem Yba.prog 102) m N D) (hN : N < maxLen) (hX : X.length = 64) (hX1 : ∀ v ∈ X, v.oneCell' = true) (hkey : keyOf Yba.prog 40 (.agg X.toArray) = some kl)
    (hhas : Maps.has D kl = false) (hi : i < n) (hgi : w.heap[gi]? = some (.cells CI 40 (0, 0))) (hgr : w.heap[gr]? = some (.cells CR 102 (0, 0))) (hgf : w.heap[gf]? = some (.cells CF 102 (0, 0)))
    (hdgi : gi ≠ d) (hdgr : gr ≠ d) (hdgf : gf ≠ d) (hir : gi ≠ gr)
    (hCF : CF[f]? = some (.int .u32 i)) (hsI : n * 64 ≤ CI.size) (hsR : n ≤ CR.size) (hnb : n < 100000) (hfb : f < 100000) (hfc : f + 1 ≤ capf) :
    Calls Yba.prog 17 #[.pointer (some ⟨d, 0, none⟩), .agg X.toArray] w fun e w' => e = .returned (.int .u32 i) ∧
      w'.heap[d]? = some (dirObj 0 (.slice (some ⟨gi, 0, none⟩) n capi) (.slice (some ⟨gr, 0, none⟩) n capr) m (.slice (some ⟨gf, 0, none⟩) f capf)) ∧
      w'.heap[gi]? = some (.cells (putA CI (i * 64) X) 40 (0, 0)) ∧ w'.heap[gr]? = some (.cells (CR.setIfInBounds i (.int .u32 1)) 102 (0, 0)) ∧
      w'.ownsMap Yba.prog 40 (plainElem Yba.prog 102) m (N + 1) (D.put kl (.lit (.int .u32 i))) ∧ Kept (fun k => k = d ∨ k = gi ∨ k = gr ∨ k = m) w w' := by
  have c0 := dir0 hd
  have f0 := dirF hd 0
  have hdm : m ≠ d := ownsMap_ne hown hd
  have hmi : m ≠ gi := ownsMap_ne hown hgi
  have hmr : m ≠ gr := ownsMap_ne hown hgr
  have hmf : m ≠ gf := ownsMap_ne hown hgf
  have hdlt : d < w.heap.size := lt_of_heap hd
  have lti : gi < w.heap.size := lt_of_heap hgi
  have ltr : gr < w.heap.size := lt_of_heap hgr
  have ltf : gf < w.heap.size := lt_of_heap hgf
  have Hd : Hid _ := hd
  have Hgi : Hid _ := hgi
  have Hgr : Hid _ := hgr
  have Hgf : Hid _ := hgf
  have Hhas : Hid _ := hhas
  have HCF : Hid _ := hCF
  have HX1 : Hid (∀ v ∈ X, v.oneCell' = true) := hX1
  clear hd hgi hgr hgf hhas hCF
  go_enter_defers Yba.func17, Yba.ntmps17
  go_wp2_with (go_at_call 32; refine (lock_free Yba.muLib ⟨d, 0, none⟩ _ (by go_simp) (by go_simp)).mono ?_; rintro e w' ⟨rfl, rfl⟩)
  generalize hW : (w.setCell ⟨d, 0, none⟩ (.int .i32 1)).alloc (.cells X.toArray 40 (0, 0)) = W
  have hW' : Hid _ := hW
  clear hW
  have hK : Hid (Kept (fun k => k = d) w W) := by
    rw [← hW'.out]
    exact ((Kept.refl (fun k => k = d) w).setCell ⟨d, 0, none⟩ (fun _ => rfl) _).alloc _
  have hdW : W.heap[d]? = some (dirObj 1 (.slice (some ⟨gi, 0, none⟩) n capi) (.slice (some ⟨gr, 0, none⟩) n capr) m (.slice (some ⟨gf, 0, none⟩) (f + 1) capf)) := by
    rw [← hW'.out, (MapKept.heap_alloc _ _).2 d (by simpa [World.setCell] using hdlt)]
    exact dir_lock Hd.out 1
  have hiW : W.heap[gi]? = some (.cells CI 40 (0, 0)) := (hK.out.block gi lti hdgi).trans Hgi.out
  have hrW : W.heap[gr]? = some (.cells CR 102 (0, 0)) := (hK.out.block gr ltr hdgr).trans Hgr.out
  have hfW : W.heap[gf]? = some (.cells CF 102 (0, 0)) := (hK.out.block gf ltf hdgf).trans Hgf.out
  have hNW : W.heap[w.heap.size]? = some (.cells X.toArray 40 (0, 0)) := by
    rw [← hW'.out]
    have := (MapKept.heap_alloc (w.setCell ⟨d, 0, none⟩ (.int .i32 1)) (.cells X.toArray 40 (0, 0))).1
    simpa [World.setCell] using this
  have ho : W.drew.ownsMap Yba.prog 40 (plainElem Yba.prog 102) m N D :=
    ownsMap_heap hown (hK.out.block m (ownsMap_lt hown) hdm)
  have k0 := dir0 hdW
  have k2 := dir2 hdW
  have k3 := dir3 hdW
  have k4 := dir4 hdW
  have k5 := dir5 hdW
  have kf0 := dirF hdW 0
  have kf5 := dirF hdW 5
  have kF : W.cell? ⟨gf, f, none⟩ = some (.int .u32 i) := by rw [cell_of_row W gf f _ 102 (0, 0) hfW]; exact HCF.out
  have HdW : Hid _ := hdW
  have HiW : Hid _ := hiW
  have HrW : Hid _ := hrW
  have HfW : Hid _ := hfW
  have HNW : Hid _ := hNW
  have hl : (loadCells ⟨w.heap.size, 0, none⟩ 64).run Yba.prog W.drew = .ok X.toArray W.drew :=
    lc40_block (w := W.drew) (t := 40) (fr := (0, 0)) hNW hX
  clear hdW hiW hrW hfW hNW
  obtain ⟨v, ps, hlk, hv⟩ := ho.look_ok keyed40 Yba.underlying112 (zero102 _) (plainElem_int Yba.underlying102 (by decide)) hkey
  obtain ⟨c, rfl, hat, hwc⟩ := plainElem_int_inv Yba.underlying102 hv
  rw [Hhas.out] at hlk
  have Ho : Hid (W.drew.ownsMap Yba.prog 40 (plainElem Yba.prog 102) m N D) := ho
  clear c0 f0 hv hown ho hat
  refine wp_region_still_lit (by kernel_rfl) (by kernel_rfl) ?_
  change wpStill _ _ W.drew _ _ _
  repeat still_step
  refine wpStill_nil ?_
  change Exit.then _ _ _ _ W.drew
  have hi' : ((i : Nat) : Int) < n := by omega
  clear hl hlk
  go_wp2
  have wf : IntKind.i64.wrap (f : Int) = f := IntWalk.i64_in _ (by omega)
  have lf : (f : Int) < (f : Int) + 1 := by omega
  refine wp_region_still_lit (by kernel_rfl) (by kernel_rfl) ?_
  change wpStill _ _ W.drew.drew _ _ _
  repeat still_step
  refine wpStill_nil ?_
  change Exit.then _ _ _ _ W.drew.drew
  go_wp2
  have hc1 : (f : Int) ≤ (capf : Int) := by omega
  have hc2 : ¬ capf = 0 := by omega
  refine wp_region_still_tail 14 (by kernel_rfl) (by kernel_rfl) ?_
  simp only [List.take_succ_cons, List.take_zero, List.drop_succ_cons, List.drop_zero]
  change wpStill _ _ W.drew.drew.drew (fun a' => wpList _ _ _ _ a' W.drew.drew.drew) _ _
  repeat still_step
  refine wpStill_nil ?_
  go_wp2
  clear hc1 hc2 wf lf
  generalize hV : (W.setCell ⟨d, 5, none⟩ (.slice (some ⟨gf, 0, none⟩) f capf)).drew.drew.drew = V
  have HV : Hid _ := hV
  clear hV
  have hKV : Hid (Kept (fun k => k = d) w V) := by
    rw [← HV.out]
    exact ((hK.out.setCell ⟨d, 5, none⟩ (fun _ => rfl) _).drew.drew).drew
  have hKV2 : Hid (Kept (fun k => k = d) W V) := by
    rw [← HV.out]
    exact (((Kept.refl (fun k => k = d) W).setCell ⟨d, 5, none⟩ (fun _ => rfl) _).drew.drew).drew
  have hdV : V.heap[d]? = some (dirObj 1 (.slice (some ⟨gi, 0, none⟩) n capi) (.slice (some ⟨gr, 0, none⟩) n capr) m (.slice (some ⟨gf, 0, none⟩) f capf)) := by
    rw [← HV.out]
    exact dir_free HdW.out _
  have ltW := hK.out.size
  have hiV : V.heap[gi]? = some (.cells CI 40 (0, 0)) := (hKV2.out.block gi (by omega) hdgi).trans HiW.out
  have hrV : V.heap[gr]? = some (.cells CR 102 (0, 0)) := (hKV2.out.block gr (by omega) hdgr).trans HrW.out
  have hNV : V.heap[w.heap.size]? = some (.cells X.toArray 40 (0, 0)) := (hKV2.out.block _ (lt_of_heap HNW.out) (by omega)).trans HNW.out
  have hoV : V.ownsMap Yba.prog 40 (plainElem Yba.prog 102) m N D :=
    ownsMap_heap Ho.out (hKV2.out.block m (ownsMap_lt Ho.out) hdm)
  have HdV : Hid _ := hdV
  have HiV : Hid _ := hiV
  have HrV : Hid _ := hrV
  have HNV : Hid _ := hNV
  have HoV : Hid (V.ownsMap Yba.prog 40 (plainElem Yba.prog 102) m N D) := hoV
  clear k0 k2 k3 k4 k5 kf0 kf5 kF
  have j2 := dir2 hdV
  have j3 := dir3 hdV
  obtain ⟨r0, hr0⟩ : ∃ r0, CR[i]? = some r0 := ⟨_, Array.getElem?_eq_getElem (by omega)⟩
  have hl : (loadCells ⟨w.heap.size, 0, none⟩ 64).run Yba.prog V.drew = .ok X.toArray V.drew :=
    lc40_block (w := V.drew) (t := 40) (fr := (0, 0)) hNV hX
  have hs : (storeCells ⟨gi, i * 64, none⟩ X).run Yba.prog V.drew = .ok () (V.drew.setCells gi (i * 64) X) :=
    sc40 (w := V.drew) (there_block (w := V.drew) hiV (i * 64) 64 (by omega)) hX HX1.out
  have hrU : (V.drew.setCells gi (i * 64) X).heap[gr]? = some (.cells CR 102 (0, 0)) :=
    (heap_setCells gi X (i * 64) V.drew gr (fun e => hir e.symm)).trans hrV
  have jr : (V.drew.setCells gi (i * 64) X).cell? ⟨gr, i, none⟩ = some r0 := by rw [cell_of_row _ gr i _ 102 (0, 0) hrU]; exact hr0
  have jf : (V.drew.setCells gi (i * 64) X).frozen? ⟨gr, i, none⟩ = false := by simp [World.frozen?, hrU]
  have HrU : Hid _ := hrU
  clear hdV hiV hrV hNV hoV hrU
  have jN : V.rangeAt w.heap.size 0 X := fun j v hv => by
    rw [Nat.zero_add, cell_of_row V w.heap.size j _ 40 (0, 0) HNV.out]; simpa using hv
  have jT : V.there gi (i * 64) 64 := there_block HiV.out (i * 64) 64 (by omega)
  have hN1 : w.heap.size ≠ gi := by omega
  have hN2 : w.heap.size ≠ gr := by omega
  have hu40 := under40
  have hi40 : (Yba.prog.info? 40).map (·.size) = some X.length := by rw [size40, hX]
  have hX1' : ∀ v ∈ X, v.oneCell' = true := HX1.out
  have hS0 : V.cell? ⟨d, 2, none⟩ = some (.slice (some ⟨gi, 0, none⟩) n capi) ∧ V.cell? ⟨d, 3, none⟩ = some (.slice (some ⟨gr, 0, none⟩) n capr) ∧ V.rangeAt w.heap.size 0 X ∧ V.there gi (i * 64) 64 := ⟨j2, j3, jN, jT⟩
  go_region_held3 (fun w' => w'.cell? ⟨d, 2, none⟩ = some (.slice (some ⟨gi, 0, none⟩) n capi) ∧ w'.cell? ⟨d, 3, none⟩ = some (.slice (some ⟨gr, 0, none⟩) n capr) ∧ w'.rangeAt w.heap.size 0 X ∧ w'.there gi (i * 64) 64)
    ((first | exact hS0 | exact s10_many hdgi hN1 _ (by assumption) | exact s10_one hdgr hN2 hir _ (by assumption) | exact s10_one hdgr hN2 hir _ (s10_many hdgi hN1 _ hS0)))
    (fail)
  rename_i hHeld
  clear hHeld hl hs jr jf hS0 j2 j3 jN jT hu40 hi40 hX1'
  generalize hU : (V.drew.setCells gi (i * 64) X).setCell ⟨gr, i, none⟩ (.int .u32 1) = U
  have HU : Hid _ := hU
  clear hU
  have hK1 : Hid (Kept (fun k => k = d ∨ k = gi ∨ k = gr) w U) := by
    rw [← HU.out]
    exact (Kept.setCells gi (fun _ => .inr (.inl rfl)) X _ _ ((hKV.out.mono (own' := fun k => k = d ∨ k = gi ∨ k = gr) (fun _ _ h => .inl h)).drew)).setCell ⟨gr, i, none⟩ (fun _ => .inr (.inr rfl)) _
  have hdU : U.heap[d]? = some (dirObj 1 (.slice (some ⟨gi, 0, none⟩) n capi) (.slice (some ⟨gr, 0, none⟩) n capr) m (.slice (some ⟨gf, 0, none⟩) f capf)) := by
    rw [← HU.out, Below.heap_setCell _ _ _ _ (fun e => hdgr e.symm), heap_setCells _ _ _ _ _ (fun e => hdgi e.symm)]
    exact HdV.out
  have hNU : U.heap[w.heap.size]? = some (.cells X.toArray 40 (0, 0)) := by
    rw [← HU.out, Below.heap_setCell _ _ _ _ (show w.heap.size ≠ gr by omega), heap_setCells _ _ _ _ _ (show w.heap.size ≠ gi by omega)]
    exact HNV.out
  have hiU : U.heap[gi]? = some (.cells (putA CI (i * 64) X) 40 (0, 0)) := by
    rw [← HU.out, Below.heap_setCell _ _ _ _ hir]
    exact heap_putA X _ V.drew CI HiV.out
  have hrU : U.heap[gr]? = some (.cells (CR.setIfInBounds i (.int .u32 1)) 102 (0, 0)) := by
    rw [← HU.out]
    exact heap_setCell_same _ gr i CR 102 _ HrU.out
  have hoU : U.drew.ownsMap Yba.prog 40 (plainElem Yba.prog 102) m N D := by
    refine ownsMap_heap HoV.out ?_
    show U.heap[m]? = _
    rw [← HU.out, Below.heap_setCell _ _ _ _ hmr, heap_setCells _ _ _ _ _ hmi]
    rfl
  have u0 := dir0 hdU
  have u4 := dir4 hdU
  have uf := dirF hdU 0
  have hl : (loadCells ⟨w.heap.size, 0, none⟩ 64).run Yba.prog U.drew = .ok X.toArray U.drew :=
    lc40_block (w := U.drew) (t := 40) (fr := (0, 0)) hNU hX
  have hwi : (Lit.int .u32 (i : Int)).wf = true := by
    simp [Lit.wf, IntKind.min, IntKind.max, IntKind.bits, IntKind.signed]; omega
  obtain ⟨w1, hmu, hown1, hturn⟩ := hoU.store keyed40 Yba.underlying112 hN hkey (plainElem_int Yba.underlying102 hwi)
  have hb1 : ∀ k, k < U.heap.size → k ≠ m → w1.heap[k]? = U.heap[k]? := fun k hk hne => hturn.grown.block k hk (fun e => hne (Option.some.inj e))
  have ltU : w.heap.size ≤ U.heap.size := hK1.out.size
  have hd1 : w1.heap[d]? = some (dirObj 1 (.slice (some ⟨gi, 0, none⟩) n capi) (.slice (some ⟨gr, 0, none⟩) n capr) m (.slice (some ⟨gf, 0, none⟩) f capf)) := (hb1 d (by omega) (fun e => hdm e.symm)).trans hdU
  have hi1 : w1.heap[gi]? = some (.cells (putA CI (i * 64) X) 40 (0, 0)) := (hb1 gi (by omega) (fun e => hmi e.symm)).trans hiU
  have hr1 : w1.heap[gr]? = some (.cells (CR.setIfInBounds i (.int .u32 1)) 102 (0, 0)) := (hb1 gr (by omega) (fun e => hmr e.symm)).trans hrU
  have hK2 : Hid (Kept (fun k => k = d ∨ k = gi ∨ k = gr ∨ k = m) w w1) :=
    Kept.grown ((hK1.out.mono (own' := fun k => k = d ∨ k = gi ∨ k = gr ∨ k = m) (fun _ _ h => by rcases h with h | h | h; exact .inl h; exact .inr (.inl h); exact .inr (.inr (.inl h)))).drew) hturn.grown (fun k e _ => .inr (.inr (.inr (Option.some.inj e).symm)))
  have Hd1 : Hid _ := hd1
  have Hi1 : Hid _ := hi1
  have Hr1 : Hid _ := hr1
  have Ho1 : Hid (w1.ownsMap Yba.prog 40 (plainElem Yba.prog 102) m (N + 1) (D.put kl (.lit (.int .u32 i)))) := hown1
  clear hdU hNU hiU hrU hoU hturn hb1 hd1 hi1 hr1 hown1
  go_wp2
  refine wp_region_still_tail 6 (by kernel_rfl) (by kernel_rfl) ?_
  simp only [List.take_succ_cons, List.take_zero, List.drop_succ_cons, List.drop_zero]
  change wpStill _ _ U.drew (fun a' => wpList _ _ _ _ a' U.drew) _ _
  repeat still_step
  refine wpStill_nil ?_
  go_wp2
  refine leaves_cons (f := 33) (args := #[.pointer (some ⟨d, 0, none⟩)]) (by simp) (by simp [go_sem]) ?_
  refine (unlock_deferred Yba.muLib ⟨d, 0, none⟩ .returning _ (dir0 Hd1.out) (dirF Hd1.out 0)).mono ?_
  rintro e u' w'' ⟨rfl, rfl, rfl⟩
  refine ⟨_, results_tmp rfl _ _ _, rfl, dir_lock Hd1.out 0, ?_, ?_, ?_, ?_⟩
  · rw [Below.heap_setCell _ _ _ _ hdgi]; exact Hi1.out
  · rw [Below.heap_setCell _ _ _ _ hdgr]; exact Hr1.out
  · exact ownsMap_heap Ho1.out (Below.heap_setCell _ _ _ _ hdm)
  · exact hK2.out.setCell ⟨d, 0, none⟩ (fun _ => .inl rfl) _
end Go.Proofs.Ybulkamjs
