/- hold, by the invariant. -/
import Derived.Test.YbulkamjsInv
namespace Go.Proofs.Ybulkamjs
open Go.RowKit Go.Maps Go.WideMaps

section
variable {av : Nat → Prop} {base d : Nat} {kl : Nat → Lit} {t : Nat} {cnt sl : Nat → Nat} {fr : List Nat} {w w' : World} {m N n : Nat} {I R F : Value} {ids refs : List Value} {D : DataW Unit}

/-- The refs' row with one number set. -/
theorem own_set {g cap i : Nat} {cur : Array Value} {v : Value} (hb : base ≤ g) (hg : w.heap[g]? = some (.cells (cur.setIfInBounds i v) 102 (0, 0))) (h1 : n ≤ cap) (h2 : cap ≤ maxLen) (h3 : cur.size = cap * 1)
    (hl : refs.length = n * 1) (hi : i < n) (h : ∀ j, j < n * 1 → cur[j]? = refs[j]?) : w.ownsRow base 102 1 (.slice (some ⟨g, 0, none⟩) n cap) n (refs.set i v) := by
  refine own_close hb hg h1 h2 (by simpa using h3) (by simpa using hl) fun j hj => ?_
  rw [Array.getElem?_setIfInBounds, List.getElem?_set]
  by_cases e : i = j
  · subst e; rw [if_pos rfl, if_pos rfl, if_pos (by omega), if_pos (by omega)]
  · rw [if_neg e, if_neg e]; exact h j hj

/-- The ids' row with one id put. -/
theorem own_put {g cap i : Nat} {cur : Array Value} {X : List Value} (hb : base ≤ g) (hg : w.heap[g]? = some (.cells (putA cur (i * 64) X) 40 (0, 0))) (h1 : n ≤ cap) (h2 : cap ≤ maxLen) (h3 : cur.size = cap * 64)
    (hX : X.length = 64) (hi : i < n) (h : ∀ j, j < n * 64 → cur[j]? = ids[j]?) : ∃ ids', w.ownsRow base 40 64 (.slice (some ⟨g, 0, none⟩) n cap) n ids' ∧
      (∀ j v, X[j]? = some v → ids'[i * 64 + j]? = some v) ∧ ∀ q j v, q ≠ i → q < n → j < 64 → ids[q * 64 + j]? = some v → ids'[q * 64 + j]? = some v := by
  have hsz : (putA cur (i * 64) X).size = cap * 64 := by rw [size_putA]; exact h3
  have hin : i * 64 + X.length ≤ cur.size := by rw [h3, hX]; omega
  have hget : ∀ j, j < n * 64 → ((putA cur (i * 64) X).toList.take (n * 64))[j]? = (putA cur (i * 64) X)[j]? := fun j hj => by
    rw [List.getElem?_take, if_pos hj]; simp
  refine ⟨(putA cur (i * 64) X).toList.take (n * 64), own_close hb hg h1 h2 hsz (by simp [hsz]; omega) (fun j hj => (hget j hj).symm), fun j v hv => ?_, fun q j v hq hqn hj hv => ?_⟩
  · have hj : j < 64 := by have := (List.getElem?_eq_some_iff.1 hv).1; omega
    rw [hget _ (by omega), get_putA _ _ _ _ hin, if_pos (by omega), Nat.add_sub_cancel_left]; exact hv
  · rw [hget _ (by omega), get_putA _ _ _ _ hin, if_neg (by omega), h _ (by omega)]; exact hv

theorem key_lit (hkl : IsKl kl) {k : Nat} (hk : k < 4) : WideAt.IsKeyLit (kl k) := keyed40.key (hkl k hk)

theorem hold_dir (hkl : IsKl kl) (h : Dir av base d kl t cnt sl fr w) (hav : ∀ k, av k → k < w.heap.size) (hb : base ≤ w.heap.size) {k : Nat} (hk : k < 4) (ht : t < 5000) :
    Calls Yba.prog 17 #[.pointer (some ⟨d, 0, none⟩), .agg (idk k).toArray] w fun e w' => ∃ sl' fr', e = .returned (.int .u32 (sl' k : Nat)) ∧
      Dir av base d kl (t + 1) (upd cnt k (cnt k + 1)) sl' fr' w' ∧ Kept (fun b => ¬ av b) w w' := by
  obtain ⟨m, N, n, I, R, F, ids, refs, D, h⟩ := h
  have hmL : maxLen = 9223372036854775807 := by rfl
  by_cases hc : 0 < cnt k
  · -- found
    have hs := h.hsl k hk hc
    obtain ⟨gr, capr, CR, rfl, hbr, hgr, c1, c2, c3, hcr, _⟩ := own_open h.hR (by omega)
    refine (hold_found d m N gr n capr (sl k) (cnt k) I F CR D (idk k) (kl k) w h.hd h.hm (idk_len k) (hkl k hk) (by rw [h.hhas k hk]; simp [hc]) (h.hat k hk hc) hs hgr (fun e => h.Rd (by rw [e]; rfl))
      (by rw [hcr _ (by omega)]; exact h.hrefs k hk hc) (by have := h.bc k; omega)).mono ?_
    rintro e w' ⟨rfl, hg', hK⟩
    refine ⟨sl, fr, rfl, ?_, hK.mono (fun b hb e => by subst e; exact h.avR _ rfl)⟩
    have ub : ∀ j, 0 < upd cnt k (cnt k + 1) j → 0 < cnt j := fun j hj => by
      by_cases e : j = k
      · subst e; exact hc
      · rwa [upd_ne _ _ e] at hj
    refine ⟨m, N, n, I, .slice (some ⟨gr, 0, none⟩) n capr, F, ids, refs.set (sl k) (.int .u32 ((cnt k : Int) + 1)), D, ?_⟩
    exact
      { h with
        hd := (hK.block d (lt_of_heap h.hd) (fun e => h.Rd (by rw [e]; rfl))).trans h.hd
        hm := ownsMap_heap h.hm (hK.block m (ownsMap_lt h.hm) (fun e => h.Rm (by rw [e]; rfl)))
        hI := ownsRow_kept h.hI (fun g hg => hK.block g (ownsRow_lt h.hI g hg) (fun e => h.IR g hg (by rw [e]; rfl)))
        hR := own_set hbr hg' c1 c2 c3 h.hR.1 hs hcr
        hF := ownsRow_kept h.hF (fun g hg => hK.block g (ownsRow_lt h.hF g hg) (fun e => h.RF g (by rw [e]; rfl) hg))
        hsl := fun j hj hc' => h.hsl j hj (ub j hc')
        hids := fun j hj hc' => h.hids j hj (ub j hc')
        hrefs := fun j hj hc' => by
          by_cases e : j = k
          · subst e
            rw [upd_same, List.getElem?_set, if_pos rfl, if_pos (by have := h.hR.1; omega)]
            rfl
          · rw [upd_ne _ _ e, List.getElem?_set, if_neg (fun e' => e (h.hinj j k hj hk (ub j hc') hc e'.symm))]
            exact h.hrefs j hj (ub j hc')
        hat := fun j hj hc' => h.hat j hj (ub j hc')
        hinj := fun i j hi hj h1 h2 => h.hinj i j hi hj (ub i h1) (ub j h2)
        hhas := fun j hj => by
          rw [h.hhas j hj]
          by_cases e : j = k
          · subst e; rw [upd_same]; simp [hc]
          · rw [upd_ne _ _ e]
        hsize := by rw [h.hsize, live_upd_same hc (by omega)]
        hfr := fun i hi => ⟨(h.hfr i hi).1, fun j hj hc' => (h.hfr i hi).2 j hj (ub j hc')⟩
        bn := by have := h.bn; omega
        bN := by have := h.bN; omega
        bf := by have := h.bf; omega
        bc := fun j => by
          by_cases e : j = k
          · subst e; rw [upd_same]; have := h.bc j; omega
          · rw [upd_ne _ _ e]; have := h.bc j; omega }
  · have hc0 : cnt k = 0 := by omega
    have hhas : Maps.has D (kl k) = false := by rw [h.hhas k hk]; simp [hc0]
    have ub : ∀ j, j ≠ k → 0 < upd cnt k (cnt k + 1) j → 0 < cnt j := fun j e hj => by rwa [upd_ne _ _ e] at hj
    have hNb : N < maxLen := by have := h.bN; omega
    have mapf : ∀ i : Nat, (∀ j, j < 4 → Maps.has (D.put (kl k) (.lit (.int .u32 i))) (kl j) = decide (0 < upd cnt k (cnt k + 1) j)) ∧
        Maps.size (D.put (kl k) (.lit (.int .u32 i))) = live (upd cnt k (cnt k + 1)) ∧
        ∀ j, j < 4 → 0 < upd cnt k (cnt k + 1) j → (D.put (kl k) (.lit (.int .u32 i))).atKey (kl j) (.lit (.int .u32 0)) = .lit (.int .u32 (upd sl k i j)) := fun i => by
      refine ⟨fun j hj => ?_, ?_, fun j hj hc' => ?_⟩
      · by_cases e : j = k
        · subst e; rw [has_put_same h.hm.isMap (key_lit hkl hk), upd_same]; simp
        · rw [has_put_other (kl_ne hkl hj hk e), upd_ne _ _ e, h.hhas j hj]
      · rw [size_put (h.hm.tidy keyed40), hhas, h.hsize, live_upd_up hk hc0 (by omega)]; simp
      · by_cases e : j = k
        · subst e; rw [atKey_put_same h.hm.isMap (key_lit hkl hk), upd_same]
        · rw [atKey_put_other (kl_ne hkl hj hk e), upd_ne _ _ e]; exact h.hat j hj (ub j e hc')
    have bcs : ∀ j, upd cnt k (cnt k + 1) j ≤ t + 1 := fun j => by
      by_cases e : j = k
      · subst e; rw [upd_same]; have := h.bc j; omega
      · rw [upd_ne _ _ e]; have := h.bc j; omega
    rcases List.eq_nil_or_concat fr with hfr | ⟨fr0, i, hfr⟩
    · -- a new number
      obtain ⟨af, capf, hF', _⟩ := free_form h.hF h.avF
      have hF0 : F = .slice af 0 capf := by rw [hF', hfr]; rfl
      subst hF0
      refine (hold_new base d m N n capf af I R ids refs D (idk k) (kl k) w h.hd h.hm (idk_len k) (hkl k hk) hhas h.hI h.hR (by have := h.bn; omega) (idk_all k) h.Id h.Rd h.Im h.Rm h.IR hb hNb).mono ?_
      rintro e w' ⟨rfl, gI, cI', gR, cR', e1, e2, e3, e4, e5, e6, e7, hK⟩
      have nw : ∀ b, w.heap.size ≤ b → ¬ av b := fun b hb e => by have := hav b e; omega
      have aI : ¬ av gI := e5.elim (fun e => h.avI gI e) (nw gI)
      have aR : ¬ av gR := e6.elim (fun e => h.avR gR e) (nw gR)
      have hFk : ∀ g, (Value.slice af 0 capf).ownBlock = some g → w'.heap[g]? = w.heap[g]? := fun g hg => by
        refine hK.block g (ownsRow_lt h.hF g hg) ?_
        rintro (e | e | e | e)
        · exact h.Fd (e ▸ hg)
        · exact h.Fm (e ▸ hg)
        · exact h.IF g e hg
        · exact h.RF g e hg
      refine ⟨upd sl k n, fr, by rw [upd_same], ⟨m, N + 1, n + 1, .slice (some ⟨gI, 0, none⟩) (n + 1) cI', .slice (some ⟨gR, 0, none⟩) (n + 1) cR', .slice af 0 capf, ids ++ idk k, refs ++ [.int .u32 1], D.put (kl k) (.lit (.int .u32 n)), ?_⟩, hK.mono ?_⟩
      · exact
          { hd := e1
            hm := e4
            hI := e2
            hR := e3
            hF := ownsRow_kept h.hF hFk
            RF := fun g hg hg' => by
              obtain rfl := own_slice g hg
              rcases e6 with e | e
              · exact h.RF _ e hg'
              · have := ownsRow_lt h.hF _ hg'; omega
            avd := h.avd
            avm := h.avm
            avI := fun g hg => by rw [own_slice g hg]; exact aI
            avR := fun g hg => by rw [own_slice g hg]; exact aR
            avF := h.avF
            hsl := fun j hj hc' => by
              by_cases e : j = k
              · subst e; rw [upd_same]; omega
              · rw [upd_ne _ _ e]; have := h.hsl j hj (ub j e hc'); omega
            hids := fun j hj hc' q v hv => by
              have hq : q < 64 := by have := (List.getElem?_eq_some_iff.1 hv).1; rw [idk_len] at this; exact this
              have hl := h.hI.1
              by_cases e : j = k
              · subst e; rw [upd_same, List.getElem?_append_right (by omega), hl, Nat.add_sub_cancel_left]; exact hv
              · have hs := h.hsl j hj (ub j e hc')
                rw [upd_ne _ _ e, List.getElem?_append_left (by omega)]; exact h.hids j hj (ub j e hc') q v hv
            hrefs := fun j hj hc' => by
              have hl := h.hR.1
              by_cases e : j = k
              · subst e; rw [upd_same, upd_same, List.getElem?_append_right (by omega), hl, Nat.mul_one, Nat.sub_self, hc0]; rfl
              · have hs := h.hsl j hj (ub j e hc')
                rw [upd_ne _ _ e, upd_ne _ _ e, List.getElem?_append_left (by omega)]; exact h.hrefs j hj (ub j e hc')
            hat := (mapf n).2.2
            hinj := fun i j hi hj h1 h2 e => by
              by_cases ei : i = k
              · by_cases ej : j = k
                · rw [ei, ej]
                · have := h.hsl j hj (ub j ej h2); rw [ei, upd_same, upd_ne _ _ ej] at e; omega
              · by_cases ej : j = k
                · have := h.hsl i hi (ub i ei h1); rw [ej, upd_same, upd_ne _ _ ei] at e; omega
                · rw [upd_ne _ _ ei, upd_ne _ _ ej] at e; exact h.hinj i j hi hj (ub i ei h1) (ub j ej h2) e
            hhas := (mapf n).1
            hsize := (mapf n).2.1
            hfr := fun i hi => by rw [hfr] at hi; cases hi
            hnd := h.hnd
            bn := by have := h.bn; omega
            bN := by have := h.bN; omega
            bf := by have := h.bf; omega
            bc := bcs }
      · rintro b hb (e | e | e | e)
        · subst e; exact h.avd
        · subst e; exact h.avm
        · exact h.avI b e
        · exact h.avR b e
    · -- a free number
      rw [List.concat_eq_append] at hfr
      subst hfr
      have hi := h.hfr i (by simp)
      obtain ⟨gi, capi, CI, rfl, hbi, hgi, i1, i2, i3, hci, _⟩ := own_open h.hI (by omega)
      obtain ⟨gr, capr, CR, rfl, hbr, hgr, c1, c2, c3, hcr, _⟩ := own_open h.hR (by omega)
      obtain ⟨gf, capf, CF, rfl, hbf, hgf, f1, f2, f3, hcf, _⟩ := own_open h.hF (by simp)
      have hfl : (fr0 ++ [i]).length = fr0.length + 1 := by simp
      have hd := h.hd
      rw [hfl] at hd f1
      have ngr : gr ≠ gf := fun e => h.RF gr rfl (by rw [e]; rfl)
      have ngi : gi ≠ gf := fun e => h.IF gi rfl (by rw [e]; rfl)
      have nir : gi ≠ gr := fun e => h.IR gi rfl (by rw [e]; rfl)
      have ngd : gf ≠ d := fun e => h.Fd (by rw [e]; rfl)
      have ngm : gf ≠ m := fun e => h.Fm (by rw [e]; rfl)
      refine (hold_free d m N gi gr gf n capi capr fr0.length capf i CI CR CF D (idk k) (kl k) w hd h.hm hNb (idk_len k) (idk_all k) (hkl k hk) hhas hi.1 hgi hgr hgf (fun e => h.Id (by rw [e]; rfl)) (fun e => h.Rd (by rw [e]; rfl)) ngd nir
        (by rw [hcf _ (by omega)]; simp [fl]) (by rw [i3]; omega) (by rw [c3]; omega) (by have := h.bn; omega) (by have := h.bf; omega) f1).mono ?_
      rintro e w' ⟨rfl, e1, e2, e3, e4, hK⟩
      obtain ⟨ids', q1, q2, q3⟩ := own_put (w := w') (base := base) (ids := ids) hbi e2 i1 i2 i3 (idk_len k) hi.1 hci
      refine ⟨upd sl k i, fr0, by rw [upd_same], ⟨m, N + 1, n, .slice (some ⟨gi, 0, none⟩) n capi, .slice (some ⟨gr, 0, none⟩) n capr, .slice (some ⟨gf, 0, none⟩) fr0.length capf, ids', refs.set i (.int .u32 1), D.put (kl k) (.lit (.int .u32 i)), ?_⟩, hK.mono ?_⟩
      · have hgf' : w'.heap[gf]? = w.heap[gf]? := hK.block gf (lt_of_heap hgf) (by
          rintro (e | e | e | e)
          · exact ngd e
          · exact ngi e.symm
          · exact ngr e.symm
          · exact ngm e)
        have hnd := h.hnd
        rw [List.nodup_append] at hnd
        exact
          { hd := e1
            hm := e4
            hI := q1
            hR := own_set hbr e3 c1 c2 c3 h.hR.1 hi.1 hcr
            hF := own_close hbf (hgf'.trans hgf) (by omega) f2 f3 (by simp [fl]) (fun j hj => by
              rw [hcf j (by omega)]; simp only [fl, List.map_append]; rw [List.getElem?_append_left (by simp; omega)])
            RF := fun g hg hg' => by rw [own_slice g hg] at hg'; exact ngr (own_slice _ hg')
            avd := h.avd
            avm := h.avm
            avI := h.avI
            avR := h.avR
            avF := fun g hg => h.avF g hg
            hsl := fun j hj hc' => by
              by_cases e : j = k
              · subst e; rw [upd_same]; exact hi.1
              · rw [upd_ne _ _ e]; exact h.hsl j hj (ub j e hc')
            hids := fun j hj hc' q v hv => by
              have hq : q < 64 := by have := (List.getElem?_eq_some_iff.1 hv).1; rw [idk_len] at this; exact this
              by_cases e : j = k
              · subst e; rw [upd_same]; exact q2 q v hv
              · rw [upd_ne _ _ e]
                exact q3 (sl j) q v (hi.2 j hj (ub j e hc')) (h.hsl j hj (ub j e hc')) hq (h.hids j hj (ub j e hc') q v hv)
            hrefs := fun j hj hc' => by
              have hl := h.hR.1
              by_cases e : j = k
              · subst e; rw [upd_same, upd_same, List.getElem?_set, if_pos rfl, if_pos (by omega), hc0]; rfl
              · rw [upd_ne _ _ e, upd_ne _ _ e, List.getElem?_set, if_neg (fun e' => hi.2 j hj (ub j e hc') e'.symm)]
                exact h.hrefs j hj (ub j e hc')
            hat := (mapf i).2.2
            hinj := fun a j ha hj h1 h2 e => by
              by_cases ei : a = k
              · by_cases ej : j = k
                · rw [ei, ej]
                · rw [ei, upd_same, upd_ne _ _ ej] at e; exact absurd e.symm (hi.2 j hj (ub j ej h2))
              · by_cases ej : j = k
                · rw [ej, upd_same, upd_ne _ _ ei] at e; exact absurd e (hi.2 a ha (ub a ei h1))
                · rw [upd_ne _ _ ei, upd_ne _ _ ej] at e; exact h.hinj a j ha hj (ub a ei h1) (ub j ej h2) e
            hhas := (mapf i).1
            hsize := (mapf i).2.1
            hfr := fun q hq => ⟨(h.hfr q (by simp [hq])).1, fun j hj hc' => by
              by_cases e : j = k
              · subst e; rw [upd_same]; exact fun e' => hnd.2.2 q hq i (by simp) e'.symm
              · rw [upd_ne _ _ e]; exact (h.hfr q (by simp [hq])).2 j hj (ub j e hc')⟩
            hnd := hnd.1
            bn := by have := h.bn; omega
            bN := by have := h.bN; omega
            bf := by have := h.bf; omega
            bc := bcs }
      · rintro b hb (e | e | e | e)
        · subst e; exact h.avd
        · subst e; exact h.avI _ rfl
        · subst e; exact h.avR _ rfl
        · subst e; exact h.avm
end
end Go.Proofs.Ybulkamjs
