/- (*Directory).release of the last hold. -/
import Derived.Test.YbulkamjsDir
import Derived.Deep.AppendLies
namespace Go.Proofs.Ybulkamjs
open Go.RowKit Go.Maps Go.WideMaps Go.MuLone
attribute [-simp] Yba.zeroValue40 Yba.typeInfo40
attribute [-go_sem] loadCells
attribute [local simp] zero40

theorem info102 : ∃ ti, Yba.prog.info? 102 = some ti ∧ ti.zero = some (.int .u32 0) ∧ ti.size = 1 ∧ ti.bytes = 4 := by
  have h1 : (Yba.prog.info? 102).map (fun t => (t.size, t.bytes)) = some (1, 4) := by kernel_rfl
  have h2 : (Yba.prog.info? 102).bind (fun t => t.zero) = some (.int .u32 0) := by kernel_rfl
  cases h : Yba.prog.info? 102 with
  | none => rw [h] at h1; cases h1
  | some ti =>
    rw [h] at h1 h2
    simp at h1 h2
    exact ⟨ti, rfl, h2, h1.1, h1.2⟩

theorem relB_after {base d m f i H : Nat} {I R F : Value} {free : List Value} {U w2 : World} {g cap : Nat} {ob : Obj} (hdU : U.heap[d]? = some (dirObj 1 I R m F)) (hFd : F.ownBlock ≠ some d)
    (hown2 : w2.ownsRow base 102 1 (.slice (some ⟨g, 0, none⟩) (f + 1) cap) (f + 1) (free ++ [.int .u32 i])) (hgrow : (U.alloc ob).grownBy w2 F.ownBlock) (hat : F.ownBlock = some g ∨ g = H) :
    Hid (w2.ownsRow base 102 1 (.slice (some ⟨g, 0, none⟩) (f + 1) cap) (f + 1) (free ++ [.int .u32 i])) ∧ Hid ((U.alloc ob).grownBy w2 F.ownBlock) ∧ Hid (F.ownBlock = some g ∨ g = H) ∧ w2.heap[d]? = some (dirObj 1 I R m F) :=
  ⟨hown2, hgrow, hat, (hgrow.block d (by have := lt_of_heap hdU; simp; omega) (fun e => hFd e.symm)).trans ((Below.heap_alloc _ _ _ (lt_of_heap hdU)).trans hdU)⟩

theorem build40 (w : World) : (Instr.build 40 #[]).run Yba.prog w = .ok (.agg zid.toArray) w := by kernel_rfl

set_option maxRecDepth 20000 in
set_option maxHeartbeats 4000000 in
theorem release_last (base d m N gi gr n capi capr i f : Nat) (F : Value) (CI CR : Array Value) (free : List Value) (D : DataW Unit) (X : List Value) (kl : Lit) (w : World)
    (hd : w.heap[d]? = some (dirObj 0 (.slice (some ⟨gi, 0, none⟩) n capi) (.slice (some ⟨gr, 0, none⟩) n capr) m F))
    (hown : w.ownsMap Yba.prog 40 (plainElem Yba.prog 102) m N D) (hX : X.length = 64) (hkey : keyOf Yba.prog 40 (.agg X.toArray) = some kl)
    (hi : i < n) (hgi : w.heap[gi]? = some (.cells CI 40 (0, 0))) (hgr : w.heap[gr]? = some (.cells CR 102 (0, 0)))
    (hdgi : gi ≠ d) (hdgr : gr ≠ d) (hir : gi ≠ gr)
    (hCI : ∀ j v, X[j]? = some v → CI[i * 64 + j]? = some v) (hsI : n * 64 ≤ CI.size) (hCR : CR[i]? = some (.int .u32 1))
    (hF : w.ownsRow base 102 1 F f free) (hFd : F.ownBlock ≠ some d) (hFi : F.ownBlock ≠ some gi) (hFr : F.ownBlock ≠ some gr) (hFm : F.ownBlock ≠ some m) (hfb : f < 100000) (hbase : base ≤ w.heap.size) :
    Calls Yba.prog 19 #[.pointer (some ⟨d, 0, none⟩), .int .u32 i] w fun e w' => e = .returned (.tuple #[]) ∧ ∃ g cap,
      w'.heap[d]? = some (dirObj 0 (.slice (some ⟨gi, 0, none⟩) n capi) (.slice (some ⟨gr, 0, none⟩) n capr) m (.slice (some ⟨g, 0, none⟩) (f + 1) cap)) ∧
      w'.heap[gi]? = some (.cells (putA CI (i * 64) zid) 40 (0, 0)) ∧ w'.heap[gr]? = some (.cells (CR.setIfInBounds i (.int .u32 0)) 102 (0, 0)) ∧
      w'.ownsMap Yba.prog 40 (plainElem Yba.prog 102) m N (D.del kl) ∧
      w'.ownsRow base 102 1 (.slice (some ⟨g, 0, none⟩) (f + 1) cap) (f + 1) (free ++ [.int .u32 i]) ∧ (F.ownBlock = some g ∨ w.heap.size ≤ g) ∧
      Kept (fun k => k = d ∨ k = gi ∨ k = gr ∨ k = m ∨ F.ownBlock = some k) w w' := by
  have c0 := dir0 hd
  have f0 := dirF hd 0
  have hdm : m ≠ d := ownsMap_ne hown hd
  have hmi : m ≠ gi := ownsMap_ne hown hgi
  have hmr : m ≠ gr := ownsMap_ne hown hgr
  have hdlt : d < w.heap.size := lt_of_heap hd
  have lti : gi < w.heap.size := lt_of_heap hgi
  have ltr : gr < w.heap.size := lt_of_heap hgr
  have HCI : Hid (∀ j v, X[j]? = some v → CI[i * 64 + j]? = some v) := hCI
  have hdW : (w.setCell ⟨d, 0, none⟩ (.int .i32 1)).heap[d]? = some (dirObj 1 (.slice (some ⟨gi, 0, none⟩) n capi) (.slice (some ⟨gr, 0, none⟩) n capr) m F) := dir_lock hd 1
  have hiW : (w.setCell ⟨d, 0, none⟩ (.int .i32 1)).heap[gi]? = some (.cells CI 40 (0, 0)) := (Below.heap_setCell _ _ _ _ hdgi).trans hgi
  have hrW : (w.setCell ⟨d, 0, none⟩ (.int .i32 1)).heap[gr]? = some (.cells CR 102 (0, 0)) := (Below.heap_setCell _ _ _ _ hdgr).trans hgr
  have hoW : (w.setCell ⟨d, 0, none⟩ (.int .i32 1)).ownsMap Yba.prog 40 (plainElem Yba.prog 102) m N D := ownsMap_heap hown (Below.heap_setCell _ _ _ _ hdm)
  clear hd hgi hgr hown hCI
  generalize hW : w.setCell ⟨d, 0, none⟩ (.int .i32 1) = W at hdW hiW hrW hoW
  have HW : Hid (w.setCell ⟨d, 0, none⟩ (.int .i32 1) = W) := hW
  clear hW
  have hK : Hid (Kept (fun k => k = d) w W) := by
    rw [← HW.out]
    exact (Kept.refl (fun k => k = d) w).setCell ⟨d, 0, none⟩ (fun _ => rfl) _
  have k0 := dir0 hdW
  have k3 := dir3 hdW
  have kf := dirF hdW 0
  have kr : W.cell? ⟨gr, i, none⟩ = some (.int .u32 1) := by rw [cell_of_row W gr i _ 102 (0, 0) hrW]; exact hCR
  have krf : W.frozen? ⟨gr, i, none⟩ = false := by simp [World.frozen?, hrW]
  have HdW : Hid _ := hdW
  have HiW : Hid _ := hiW
  have HrW : Hid _ := hrW
  have HoW : Hid (W.ownsMap Yba.prog 40 (plainElem Yba.prog 102) m N D) := hoW
  have HF : Hid (w.ownsRow base 102 1 F f free) := hF
  clear hdW hiW hrW hoW hCR hF
  have hi' : ((i : Nat) : Int) < n := by omega
  go_enter_defers Yba.func19, Yba.ntmps19
  go_wp2_with (go_at_call 32; refine (lock_free Yba.muLib ⟨d, 0, none⟩ _ (by go_simp) (by go_simp)).mono ?_; rintro e w' ⟨rfl, rfl⟩; rw [HW.out])
  generalize hV : W.setCell ⟨gr, i, none⟩ (.int .u32 0) = V
  have HV : Hid (W.setCell ⟨gr, i, none⟩ (.int .u32 0) = V) := hV
  clear hV k0 k3 kf kr krf
  have hKV : Hid (Kept (fun k => k = d ∨ k = gr) w V) := by
    rw [← HV.out]
    exact (hK.out.mono (own' := fun k => k = d ∨ k = gr) (fun _ _ h => .inl h)).setCell ⟨gr, i, none⟩ (fun _ => .inr rfl) _
  have hdV : V.heap[d]? = some (dirObj 1 (.slice (some ⟨gi, 0, none⟩) n capi) (.slice (some ⟨gr, 0, none⟩) n capr) m F) := by
    rw [← HV.out, Below.heap_setCell _ _ _ _ (fun e => hdgr e.symm)]; exact HdW.out
  have hiV : V.heap[gi]? = some (.cells CI 40 (0, 0)) := by
    rw [← HV.out, Below.heap_setCell _ _ _ _ hir]; exact HiW.out
  have hrV : V.heap[gr]? = some (.cells (CR.setIfInBounds i (.int .u32 0)) 102 (0, 0)) := by
    rw [← HV.out]; exact heap_setCell_same _ gr i CR 102 _ HrW.out
  have hoV : V.drew.ownsMap Yba.prog 40 (plainElem Yba.prog 102) m N D := by
    refine ownsMap_heap HoW.out ?_
    show V.heap[m]? = _
    rw [← HV.out, Below.heap_setCell _ _ _ _ hmr]
  have ltV : w.heap.size ≤ V.heap.size := hKV.out.size
  have v2 := dir2 hdV
  have v4 := dir4 hdV
  have hl : (loadCells ⟨gi, i * 64, none⟩ 64).run Yba.prog V.drew = .ok X.toArray V.drew := by
    refine lc40 (fun j v hv => ?_) hX
    rw [cell_of_row V.drew gi _ _ 40 (0, 0) hiV]
    exact HCI.out j v hv
  obtain ⟨w1, hdel, hown1, hturn⟩ := hoV.drop keyed40 Yba.underlying112 hkey 0
  have hb1 : ∀ k, k < V.heap.size → k ≠ m → w1.heap[k]? = V.heap[k]? := fun k hk hne => hturn.grown.block k hk (fun e => hne (Option.some.inj e))
  have hd1 : w1.heap[d]? = some (dirObj 1 (.slice (some ⟨gi, 0, none⟩) n capi) (.slice (some ⟨gr, 0, none⟩) n capr) m F) := (hb1 d (by omega) (fun e => hdm e.symm)).trans hdV
  have hi1 : w1.heap[gi]? = some (.cells CI 40 (0, 0)) := (hb1 gi (by omega) (fun e => hmi e.symm)).trans hiV
  have hr1 : w1.heap[gr]? = some (.cells (CR.setIfInBounds i (.int .u32 0)) 102 (0, 0)) := (hb1 gr (by omega) (fun e => hmr e.symm)).trans hrV
  have hK1 : Hid (Kept (fun k => k = d ∨ k = gr ∨ k = m) w w1) :=
    Kept.grown ((hKV.out.mono (own' := fun k => k = d ∨ k = gr ∨ k = m) (fun _ _ h => h.elim .inl (fun h => .inr (.inl h)))).drew) hturn.grown (fun k e _ => .inr (.inr (Option.some.inj e).symm))
  have Hd1 : Hid _ := hd1
  have Hi1 : Hid _ := hi1
  have Hr1 : Hid _ := hr1
  have Ho1 : Hid (w1.ownsMap Yba.prog 40 (plainElem Yba.prog 102) m N (D.del kl)) := hown1
  clear hdV hiV hrV hoV hturn hb1
  refine wp_region_still_tail 11 (by kernel_rfl) (by kernel_rfl) ?_
  simp only [List.take_succ_cons, List.take_zero, List.drop_succ_cons, List.drop_zero]
  change wpStill _ _ V.drew (fun a' => wpList _ _ _ _ a' V.drew) _ _
  repeat still_step
  refine wpStill_nil ?_
  clear hl v2 v4
  have x2 := dir2 hd1
  have hs : (storeCells ⟨gi, i * 64, none⟩ zid).run Yba.prog w1 = .ok () (w1.setCells gi (i * 64) zid) :=
    sc40 (there_block hi1 (i * 64) 64 (by omega)) zid_len zid_all
  have hzl := zid_len
  have hbd := build40 w1
  have hdU : (w1.setCells gi (i * 64) zid).heap[d]? = some (dirObj 1 (.slice (some ⟨gi, 0, none⟩) n capi) (.slice (some ⟨gr, 0, none⟩) n capr) m F) :=
    (heap_setCells gi _ _ _ d (fun e => hdgi e.symm)).trans hd1
  have hKU : Hid (Kept (fun k => k = d ∨ k = gi ∨ k = gr ∨ k = m) w (w1.setCells gi (i * 64) zid)) :=
    Kept.setCells gi (fun _ => .inr (.inl rfl)) _ _ _ (hK1.out.mono (fun _ _ h => by rcases h with h | h | h; exact .inl h; exact .inr (.inr (.inl h)); exact .inr (.inr (.inr h))))
  have hiU : (w1.setCells gi (i * 64) zid).heap[gi]? = some (.cells (putA CI (i * 64) zid) 40 (0, 0)) := heap_putA _ _ _ _ hi1
  have hrU : (w1.setCells gi (i * 64) zid).heap[gr]? = some (.cells (CR.setIfInBounds i (.int .u32 0)) 102 (0, 0)) :=
    (heap_setCells gi _ _ _ gr (fun e => hir e.symm)).trans hr1
  have hoU : (w1.setCells gi (i * 64) zid).ownsMap Yba.prog 40 (plainElem Yba.prog 102) m N (D.del kl) :=
    ownsMap_heap hown1 (heap_setCells gi _ _ _ m hmi)
  clear hd1 hi1 hr1 hown1
  generalize hU : w1.setCells gi (i * 64) zid = U at hs hdU hKU hiU hrU hoU
  clear hU
  have y5 := dir5 hdU
  have HdU : Hid _ := hdU
  have HiU : Hid _ := hiU
  have HrU : Hid _ := hrU
  have HoU : Hid (U.ownsMap Yba.prog 40 (plainElem Yba.prog 102) m N (D.del kl)) := hoU
  clear hdU hiU hrU hoU
  have ltU : w.heap.size ≤ U.heap.size := hKU.out.size
  have hFU : U.ownsRow base 102 1 F f free := by
    refine ⟨HF.out.1, ?_⟩
    rcases HF.out.2 with h | ⟨g, cap, cur, hv, hb, hg, r⟩
    · exact .inl h
    · refine .inr ⟨g, cap, cur, hv, hb, ?_, r⟩
      subst hv
      rw [hKU.out.block g (lt_of_heap hg) (by
        simp only [Value.ownBlock] at hFd hFi hFr hFm
        rintro (h | h | h | h) <;> subst h <;> simp_all)]
      exact hg
  have hFA : (U.alloc (.cells #[.int .u32 i] 102 (0, 0))).ownsRow base 102 1 F f free := hFU.alloc _
  have hnw : ∀ j u, [Value.int .u32 i][j]? = some u → (U.alloc (.cells #[.int .u32 i] 102 (0, 0))).cell? ((⟨U.heap.size, 0, none⟩ : Addr).add j) = some u :=
    World.news_of_block (MapKept.heap_alloc U (.cells #[.int .u32 i] 102 (0, 0))).1
  have Hnw : Hid _ := hnw
  have HFA : Hid ((U.alloc (.cells #[.int .u32 i] 102 (0, 0))).ownsRow base 102 1 F f free) := hFA
  clear hnw hFA hFU
  obtain ⟨ti, ti1, ti2, ti3, ti4⟩ := info102
  have Ht : Hid (Yba.prog.info? 102 = some ti ∧ ti.zero = some (.int .u32 0) ∧ ti.size = 1 ∧ ti.bytes = 4) := ⟨ti1, ti2, ti3, ti4⟩
  clear ti1 ti2 ti3 ti4
  go_wp2_with (at_builtin; refine wpList_append_lies _ rfl _ _ 111 rfl base 102 ti (.int .u32 0) 1 4 Yba.underlying111 Ht.out.1 Ht.out.2.1 Ht.out.2.2.1 Ht.out.2.2.2 rfl (by omega) F f free rfl HFA.out ⟨U.heap.size, 0, none⟩ 1 1 [.int .u32 i] rfl rfl Hnw.out (by intro u hu; simp at hu; subst hu; rfl) (by omega) (by unfold maxLen; omega) (by omega) (by simp; omega) _ rfl ?_; intro g cap w2 hown2 hgrow hat hlt; obtain ⟨Hown2, Hgrow, Hat, hd2⟩ := relB_after HdU.out hFd hown2 hgrow hat; clear hown2 hgrow hat; have z5 := dir5 hd2; have zf5 := dirF hd2 5; have HdZ : Hid _ := hd2; clear hd2)
  refine leaves_cons (f := 33) (args := #[.pointer (some ⟨d, 0, none⟩)]) (by simp) (by simp [go_sem]) ?_
  have hdT := dir_free HdZ.out (.slice (some ⟨g, 0, none⟩) (f + 1) cap)
  refine (unlock_deferred Yba.muLib ⟨d, 0, none⟩ .returning _ (dir0 hdT) (dirF hdT 0)).mono ?_
  rintro e u' w'' ⟨rfl, rfl, rfl⟩
  have hb2 : ∀ k, k < U.heap.size → F.ownBlock ≠ some k → w2.heap[k]? = U.heap[k]? := fun k hk hne =>
    (Hgrow.out.block k (by simp; omega) (fun e => hne e.symm)).trans (Below.heap_alloc _ _ _ hk)
  have hbT : ∀ k, k ≠ d → ((w2.setCell ⟨d, 5, none⟩ (.slice (some ⟨g, 0, none⟩) (f + 1) cap)).setCell ⟨d, 0, none⟩ (.int .i32 0)).heap[k]? = w2.heap[k]? := fun k hk => by
    rw [Below.heap_setCell _ _ _ _ hk, Below.heap_setCell _ _ _ _ hk]
  have hgd : g ≠ d := by
    rintro rfl
    rcases Hat.out with h | h
    · exact hFd h
    · simp at h; omega
  refine ⟨_, results_none rfl _ _ _, rfl, g, cap, dir_lock hdT 0, ?_, ?_, ?_, ?_, ?_, ?_⟩
  · rw [hbT gi hdgi, hb2 gi (by omega) hFi]; exact HiU.out
  · rw [hbT gr hdgr, hb2 gr (by omega) hFr]; exact HrU.out
  · exact ownsMap_heap HoU.out ((hbT m hdm).trans (hb2 m (ownsMap_lt HoU.out) hFm))
  · refine ⟨Hown2.out.1, ?_⟩
    rcases Hown2.out.2 with ⟨h, _⟩ | ⟨g', cap', cur, hv, hb, hg, r⟩
    · cases h
    · injection hv with hv1 hv2 hv3
      injection hv1 with hv1
      injection hv1 with hv1
      subst hv1 hv3
      exact .inr ⟨g, cap, cur, rfl, hb, (hbT g hgd).trans hg, r⟩
  · rcases Hat.out with h | h
    · exact .inl h
    · right; simp at h; omega
  · have hk2 : Kept (fun k => k = d ∨ k = gi ∨ k = gr ∨ k = m ∨ F.ownBlock = some k) w w2 :=
      Kept.grown ((hKU.out.mono (fun _ _ h => by rcases h with h | h | h | h; exact .inl h; exact .inr (.inl h); exact .inr (.inr (.inl h)); exact .inr (.inr (.inr (.inl h))))).alloc _) Hgrow.out (fun k e _ => .inr (.inr (.inr (.inr e))))
    exact (hk2.setCell ⟨d, 5, none⟩ (fun _ => .inl rfl) _).setCell ⟨d, 0, none⟩ (fun _ => .inl rfl) _
end Go.Proofs.Ybulkamjs
