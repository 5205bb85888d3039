/- release and number, by the invariant. -/
import Derived.Test.YbulkamjsHold
namespace Go.Proofs.Ybulkamjs
open Go.RowKit Go.Maps Go.WideMaps

section
variable {av : Nat → Prop} {base d : Nat} {kl : Nat → Lit} {t : Nat} {cnt sl : Nat → Nat} {fr : List Nat} {w w' : World} {m N n : Nat} {I R F : Value} {ids refs : List Value} {D : DataW Unit}

theorem number_dir (hkl : IsKl kl) (h : Dir av base d kl t cnt sl fr w) {k : Nat} (hk : k < 4) :
    Calls Yba.prog 18 #[.pointer (some ⟨d, 0, none⟩), .agg (idk k).toArray] w fun e w' => ∃ c : Int, e = .returned (.tuple #[.int .u32 c, .bool (decide (0 < cnt k))]) ∧ (0 < cnt k → c = sl k) ∧
      Below w.heap.size w w' ∧ Dir av base d kl t cnt sl fr w' := by
  obtain ⟨m, N, n, I, R, F, ids, refs, D, h⟩ := h
  refine (number_any d m N I R F D (idk k) (kl k) w h.hd h.hm (idk_len k) (hkl k hk)).mono ?_
  rintro e w' ⟨c, rfl, hat, hB⟩
  refine ⟨c, by rw [h.hhas k hk], fun hc => ?_, hB, ?_⟩
  · have := h.hat k hk hc
    rw [hat] at this
    injection this with this
    injection this
  · exact ⟨m, N, n, I, R, F, ids, refs, D, h.keep (fun b hb _ => hB.block b hb) (fun _ _ e => e)⟩

theorem release_dir (hkl : IsKl kl) (h : Dir av base d kl t cnt sl fr w) (hav : ∀ k, av k → k < w.heap.size) (hb : base ≤ w.heap.size) {k : Nat} (hk : k < 4) (hc : 0 < cnt k) (ht : t < 5000) :
    Calls Yba.prog 19 #[.pointer (some ⟨d, 0, none⟩), .int .u32 (sl k : Nat)] w fun e w' => ∃ fr', e = .returned (.tuple #[]) ∧
      Dir av base d kl (t + 1) (upd cnt k (cnt k - 1)) sl fr' w' ∧ Kept (fun b => ¬ av b) w w' ∧
      fr' = (if cnt k = 1 then fr ++ [sl k] else fr) ∧ Reads av w' d (sl k) (if cnt k = 1 then zid else idk k) (cnt k - 1) fr' := by
  obtain ⟨m, N, n, I, R, F, ids, refs, D, h⟩ := h
  have hs := h.hsl k hk hc
  have hbn := h.bn
  by_cases h1 : cnt k = 1
  · -- the last hold
    have ub : ∀ j, 0 < upd cnt k (cnt k - 1) j → j ≠ k ∧ 0 < cnt j := fun j hj => by
      by_cases e : j = k
      · subst e; rw [upd_same] at hj; omega
      · rw [upd_ne _ _ e] at hj; exact ⟨e, hj⟩
    obtain ⟨gi, capi, CI, rfl, hbi, hgi, i1, i2, i3, hci, _⟩ := own_open h.hI (by omega)
    obtain ⟨gr, capr, CR, rfl, hbr, hgr, c1, c2, c3, hcr, _⟩ := own_open h.hR (by omega)
    have nir : gi ≠ gr := fun e => h.IR gi rfl (by rw [e]; rfl)
    have ndi : gi ≠ d := fun e => h.Id (by rw [e]; rfl)
    have ndr : gr ≠ d := fun e => h.Rd (by rw [e]; rfl)
    have nmi : gi ≠ m := fun e => h.Im (by rw [e]; rfl)
    have nmr : gr ≠ m := fun e => h.Rm (by rw [e]; rfl)
    refine (release_last base d m N gi gr n capi capr (sl k) fr.length F CI CR (fl fr) D (idk k) (kl k) w h.hd h.hm (idk_len k) (hkl k hk) hs hgi hgr ndi ndr nir
      (fun j v hv => by
        have hj : j < 64 := by have := (List.getElem?_eq_some_iff.1 hv).1; rw [idk_len] at this; exact this
        rw [hci _ (by omega)]; exact h.hids k hk hc j v hv)
      (by rw [i3]; omega) (by rw [hcr _ (by omega), h.hrefs k hk hc, h1]; rfl) h.hF h.Fd (fun e => h.IF gi rfl e) (fun e => h.RF gr rfl e) h.Fm (by have := h.bf; omega) hb).mono ?_
    rintro e w' ⟨rfl, g, cap, e1, e2, e3, e4, e5, e6, hK⟩
    obtain ⟨ids', q1, q2, q3⟩ := own_put (w := w') (base := base) (ids := ids) hbi e2 i1 i2 i3 zid_len hs hci
    have hR' : w'.ownsRow base 102 1 (.slice (some ⟨gr, 0, none⟩) n capr) n (refs.set (sl k) (.int .u32 0)) := own_set hbr e3 c1 c2 c3 h.hR.1 hs hcr
    have hfl : fl (fr ++ [sl k]) = fl fr ++ [.int .u32 ((sl k : Nat) : Int)] := by simp [fl]
    have hF' : w'.ownsRow base 102 1 (.slice (some ⟨g, 0, none⟩) (fr.length + 1) cap) (fr ++ [sl k]).length (fl (fr ++ [sl k])) := by
      rw [hfl, List.length_append]; exact e5
    have ag : ¬ av g := e6.elim (fun e => h.avF g e) (fun hge e => by have := hav g e; omega)
    have ngr : gr ≠ g := by
      rintro rfl
      rcases e6 with e | e
      · exact h.RF gr rfl e
      · have := lt_of_heap hgr; omega
    refine ⟨fr ++ [sl k], rfl, ⟨m, N, n, .slice (some ⟨gi, 0, none⟩) n capi, .slice (some ⟨gr, 0, none⟩) n capr, .slice (some ⟨g, 0, none⟩) (fr.length + 1) cap, ids', refs.set (sl k) (.int .u32 0), D.del (kl k), ?_⟩, hK.mono ?_, by rw [if_pos h1], ?_⟩
    · exact
        { hd := e1
          hm := e4
          hI := q1
          hR := hR'
          hF := hF'
          RF := fun x hx hx' => by rw [own_slice x hx] at hx'; exact ngr (own_slice _ hx')
          avd := h.avd
          avm := h.avm
          avI := h.avI
          avR := h.avR
          avF := fun x hx => by rw [own_slice x hx]; exact ag
          hsl := fun j hj hc' => h.hsl j hj (ub j hc').2
          hids := fun j hj hc' q v hv => by
            have hq : q < 64 := by have := (List.getElem?_eq_some_iff.1 hv).1; rw [idk_len] at this; exact this
            have hu := ub j hc'
            exact q3 (sl j) q v (fun e => hu.1 (h.hinj j k hj hk hu.2 hc e)) (h.hsl j hj hu.2) hq (h.hids j hj hu.2 q v hv)
          hrefs := fun j hj hc' => by
            have hu := ub j hc'
            rw [upd_ne _ _ hu.1, List.getElem?_set, if_neg (fun e => hu.1 (h.hinj j k hj hk hu.2 hc e.symm))]
            exact h.hrefs j hj hu.2
          hat := fun j hj hc' => by
            have hu := ub j hc'
            rw [atKey_del_other (kl_ne hkl hj hk hu.1)]; exact h.hat j hj hu.2
          hinj := fun i j hi hj h1 h2 => h.hinj i j hi hj (ub i h1).2 (ub j h2).2
          hhas := fun j hj => by
            by_cases e : j = k
            · subst e; rw [has_del_same, upd_same, h1]; rfl
            · rw [has_del_other (kl_ne hkl hj hk e), upd_ne _ _ e, h.hhas j hj]
          hsize := by
            have e1 := size_del (k := kl k) (h.hm.tidy keyed40)
            have e2 := live_upd_down hk hc
            rw [h.hhas k hk, h.hsize] at e1
            simp [hc] at e1
            rw [h1]; simp only [Nat.sub_self]; omega
          hfr := fun i hi => by
            rw [List.mem_append] at hi
            rcases hi with hi | hi
            · exact ⟨(h.hfr i hi).1, fun j hj hc' => (h.hfr i hi).2 j hj (ub j hc').2⟩
            · have hi' : i = sl k := by simpa using hi
              subst hi'
              exact ⟨hs, fun j hj hc' e => (ub j hc').1 (h.hinj j k hj hk (ub j hc').2 hc e)⟩
          hnd := by
            rw [List.nodup_append]
            refine ⟨h.hnd, by simp, fun a ha b hb => ?_⟩
            have hb' : b = sl k := by simpa using hb
            subst hb'
            exact fun e => (h.hfr a ha).2 k hk hc e.symm
          bn := by omega
          bN := by have := h.bN; omega
          bf := by have := h.bf; simp; omega
          bc := fun j => by
            by_cases e : j = k
            · subst e; rw [upd_same]; have := h.bc j; omega
            · rw [upd_ne _ _ e]; have := h.bc j; omega }
    · rintro b hb (e | e | e | e | e)
      · subst e; exact h.avd
      · subst e; exact h.avI _ rfl
      · subst e; exact h.avR _ rfl
      · subst e; exact h.avm
      · exact h.avF b e
    · obtain ⟨af, capf, hff, hf⟩ := free_form (av := av) hF' (fun x hx => by rw [own_slice x hx]; exact ag)
      rw [List.length_append] at hff
      injection hff with f1 f2 f3
      refine ⟨gi, capi, gr, capr, n, m, af, capf, by rw [e1, ← f1, ← f3, List.length_append]; rfl, hs, by omega, fun j v hv => ?_, ?_, ⟨lt_of_heap e2, h.avI _ rfl⟩, ⟨lt_of_heap e3, h.avR _ rfl⟩, h.avd, hf⟩
      · rw [if_pos h1] at hv
        have hj : j < 64 := by have := (List.getElem?_eq_some_iff.1 hv).1; rw [zid_len] at this; exact this
        have hsz : (putA CI (sl k * 64) zid).size = capi * 64 := by rw [size_putA]; exact i3
        rw [cell_of_row w' gi _ _ 40 (0, 0) e2, get_putA _ _ _ _ (by rw [i3, zid_len]; omega), if_pos (by rw [zid_len]; omega), Nat.add_sub_cancel_left]; exact hv
      · rw [cell_of_row w' gr _ _ 102 (0, 0) e3, Array.getElem?_setIfInBounds, if_pos rfl, if_pos (by omega), h1]; rfl
  · -- others hold it
    have ub : ∀ j, 0 < upd cnt k (cnt k - 1) j → 0 < cnt j := fun j hj => by
      by_cases e : j = k
      · subst e; exact hc
      · rwa [upd_ne _ _ e] at hj
    obtain ⟨gr, capr, CR, rfl, hbr, hgr, c1, c2, c3, hcr, _⟩ := own_open h.hR (by omega)
    refine (release_more d m gr n capr (sl k) (cnt k) I F CR w h.hd hs hgr (fun e => h.Rd (by rw [e]; rfl)) (by rw [hcr _ (by omega)]; exact h.hrefs k hk hc) (by have := h.bc k; omega) (by omega)).mono ?_
    rintro e w' ⟨rfl, hg', hK⟩
    have hcast : ((cnt k : Int) - 1) = ((cnt k - 1 : Nat) : Int) := by omega
    have hD : Dir av base d kl (t + 1) (upd cnt k (cnt k - 1)) sl fr w' := by
      refine ⟨m, N, n, I, .slice (some ⟨gr, 0, none⟩) n capr, F, ids, refs.set (sl k) (.int .u32 ((cnt k : Int) - 1)), D, ?_⟩
      exact
        { h with
          hd := (hK.block d (lt_of_heap h.hd) (fun e => h.Rd (by rw [e]; rfl))).trans h.hd
          hm := ownsMap_heap h.hm (hK.block m (ownsMap_lt h.hm) (fun e => h.Rm (by rw [e]; rfl)))
          hI := ownsRow_kept h.hI (fun g hg => hK.block g (ownsRow_lt h.hI g hg) (fun e => h.IR g hg (by rw [e]; rfl)))
          hR := own_set hbr hg' c1 c2 c3 h.hR.1 hs hcr
          hF := ownsRow_kept h.hF (fun g hg => hK.block g (ownsRow_lt h.hF g hg) (fun e => h.RF g (by rw [e]; rfl) hg))
          hsl := fun j hj hc' => h.hsl j hj (ub j hc')
          hids := fun j hj hc' => h.hids j hj (ub j hc')
          hrefs := fun j hj hc' => by
            by_cases e : j = k
            · subst e
              rw [upd_same, List.getElem?_set, if_pos rfl, if_pos (by have := h.hR.1; omega), hcast]
            · rw [upd_ne _ _ e, List.getElem?_set, if_neg (fun e' => e (h.hinj j k hj hk (ub j hc') hc e'.symm))]
              exact h.hrefs j hj (ub j hc')
          hat := fun j hj hc' => h.hat j hj (ub j hc')
          hinj := fun i j hi hj h1 h2 => h.hinj i j hi hj (ub i h1) (ub j h2)
          hhas := fun j hj => by
            rw [h.hhas j hj]
            by_cases e : j = k
            · subst e; rw [upd_same]; simp [hc]; omega
            · rw [upd_ne _ _ e]
          hsize := by rw [h.hsize, live_upd_same hc (by omega)]
          hfr := fun i hi => ⟨(h.hfr i hi).1, fun j hj hc' => (h.hfr i hi).2 j hj (ub j hc')⟩
          bn := by omega
          bN := by have := h.bN; omega
          bf := by have := h.bf; omega
          bc := fun j => by
            by_cases e : j = k
            · subst e; rw [upd_same]; have := h.bc j; omega
            · rw [upd_ne _ _ e]; have := h.bc j; omega }
    refine ⟨fr, rfl, hD, hK.mono (fun b hb e => by subst e; exact h.avR _ rfl), by rw [if_neg h1], ?_⟩
    have := hD.reads hk (by rw [upd_same]; omega) (by omega)
    rw [upd_same] at this
    rw [if_neg h1]; exact this
end
end Go.Proofs.Ybulkamjs
