/- TopologyDescription.pick over sets. -/
import Derived.Test.YbulkamrgPick
namespace Go.Proofs.Ybulkamrg
open Go.RowKit Go.Maps Go.WideMaps
attribute [-go_sem] loadCells
attribute [-simp] Yba.zeroValue59 Yba.typeInfo59
attribute [local simp] zero59

theorem C20_lo (ty : Int) (a : Option Addr) (n cap : Nat) (X : List Value) (j : Nat) (h : j < 10) : (C20 ty a n cap X)[j]? = (A10 ty a n cap)[j]? := by
  rw [C20, List.getElem?_append_left (by simp [A10]; omega)]
theorem C20_hi (ty : Int) (a : Option Addr) (n cap : Nat) (X : List Value) (j : Nat) : (C20 ty a n cap X)[10 + j]? = X[j]? := by
  rw [C20, List.getElem?_append_right (by simp [A10])]; simp [A10]
theorem crit_of {W : World} {b cap : Nat} {ty : Int} {a : Option Addr} {ss : List ByteArray} {X : List Value} {f : Nat → Option ByteArray} (hb : W.heap[b]? = some (.cells (C20 ty a ss.length cap X).toArray 59 (0, 0)))
    (hs : Strs W a ss) (hl : ss.length < 100000) (hT : TmArr W X.toArray f) : Crit W b ty a ss cap f := by
  have lo : ∀ j, j < 10 → W.cell? ⟨b, j, none⟩ = (A10 ty a ss.length cap)[j]? := fun j hj => by
    rw [cell_of_row W b j _ 59 (0, 0) hb, List.getElem?_toArray, C20_lo _ _ _ _ _ _ hj]
  have hi : ∀ j, W.cell? ⟨b, 10 + j, none⟩ = X[j]? := fun j => by
    rw [cell_of_row W b _ _ 59 (0, 0) hb, List.getElem?_toArray, C20_hi]
  refine ⟨lo 0 (by omega), lo 1 (by omega), hs, hl, ⟨lo 2 (by omega), lo 3 (by omega), lo 4 (by omega), lo 5 (by omega), lo 6 (by omega), lo 7 (by omega), lo 8 (by omega), lo 9 (by omega)⟩, ?_⟩
  obtain ⟨_, _, ⟨_, ps, h1, _, h3, h4, h5⟩ | ⟨_, _, m, N, D, h1, h2, h3⟩⟩ := hT
  · refine .inl ⟨ps, h1, (hi 9).trans (by simpa using h3), (hi 8).trans (by simpa using h4), fun j p hp => ?_⟩
    have := h5 j p hp
    exact ⟨(hi (j * 2)).trans (by simpa using this.1), (by rw [Nat.add_assoc]; exact (hi (j * 2 + 1)).trans (by simpa using this.2))⟩
  · exact .inr ⟨m, N, D, (hi 9).trans (by simpa using h1), h2, h3⟩

/-- The sets of tags. -/
def Sets (w : World) (a : Option Addr) (fs : List (Nat → Option ByteArray)) : Prop := ∀ (j : Nat) (f : Nat → Option ByteArray), fs[j]? = some f → ∃ x, a = some x ∧ ∃ m N D, w.cell? (x.add j) = some (.map (some m)) ∧ w.ownsMap Yba.prog 9 (plainElem Yba.prog 9) m N D ∧ FD D f
theorem Sets.keep {w w' : World} {a : Option Addr} {fs : List (Nat → Option ByteArray)} (h : Sets w a fs) (hB : Below w.heap.size w w') : Sets w' a fs := fun j f hf => by
  obtain ⟨x, h1, m, N, D, h2, h3, h4⟩ := h j f hf
  exact ⟨x, h1, m, N, D, Below.cellAt hB h2, ownsMap_heap h3 (hB.block m h3.lt), h4⟩

/-- A store into the criteria's tags. -/
theorem set_hi {b : Nat} {W : World} {L X Y : List Value} {k : Nat} (hb : W.heap[b]? = some (.cells (L ++ X).toArray 59 (0, 0))) (hk : L.length = k) (hl : Y.length = X.length) : (W.setCells b k Y).heap[b]? = some (.cells (L ++ Y).toArray 59 (0, 0)) := by
  obtain ⟨C', h1, h2, h3, h4⟩ := heap_set10 Y k W _ hb (by simp; omega)
  rw [h1]
  congr 2
  apply Array.ext_getElem?
  intro j
  by_cases hj : j < k
  · rw [h3 j hj]; simp only [List.getElem?_toArray]; rw [List.getElem?_append_left (by omega), List.getElem?_append_left (by omega)]
  · have := h4 (j - k)
    rw [show k + (j - k) = j by omega] at this
    rw [this, List.getElem?_toArray, List.getElem?_append_right (by omega), hk]
theorem sc_hi {b : Nat} {W : World} {L X Y : List Value} {k : Nat} (hb : W.heap[b]? = some (.cells (L ++ X).toArray 59 (0, 0))) (hk : L.length = k) (hl : Y.length = X.length) (h1 : ∀ v ∈ Y, v.oneCell' = true) :
    (storeCells ⟨b, k, none⟩ Y).run Yba.prog W = .ok () (W.setCells b k Y) := by
  have := run_storeCells_cells (P := Yba.prog) b k Y 0 W (fun j hj => by
    rw [cell_of_row W b _ _ 59 (0, 0) hb, Array.getElem?_eq_getElem (by simp; omega)]; rfl) (fun j hj => by simp [World.frozen?, hb]) h1
  simpa [storeCells] using this
theorem QW.later {w W W' : World} {T : Array Value} {rs X : List Value} (h : QW w W T rs X) (hB : Below W.heap.size W W') : QW w W' T rs X := by
  have hs := h.size
  have hz := hB.size
  exact ⟨h.below.trans (Below.less hB h.below.size), by omega, (hB.block _ (lt_of_heap h.h0)).trans h.h0, (hB.block _ (lt_of_heap h.h1)).trans h.h1, (hB.block _ (lt_of_heap h.h3)).trans h.h3, (hB.block _ (lt_of_heap h.h4)).trans h.h4⟩

/-- The matcher reads as it did where maps are kept. -/
theorem TmArr.move {W W' : World} {M : Array Value} {f : Nat → Option ByteArray} (h : TmArr W M f) (hm : ∀ (k : Nat) (es : Array MapEntry) (clock : Nat), W.heap[k]? = some (Obj.map es clock) → W'.heap[k]? = some (Obj.map es clock)) : TmArr W' M f := by
  obtain ⟨h1, h2, h3 | ⟨h4, h5, m, N, D, h6, h7, h8⟩⟩ := h
  · exact ⟨h1, h2, .inl h3⟩
  · refine ⟨h1, h2, .inr ⟨h4, h5, m, N, D, h6, ?_, h8⟩⟩
    obtain ⟨es, clock, hb, r⟩ := h7
    exact ⟨es, clock, hm m es clock hb, r⟩

/-- What pick returns. -/
def PickRes (w' : World) (r : List Value) (fs : List (Nat → Option ByteArray)) (ty : Int) (a : Option Addr) (ss : List ByteArray) (cap : Nat) (ds : List SD) : Prop :=
  (∃ j f X, fs[j]? = some f ∧ anyM ty ss f ds = true ∧ (∀ g, g ∈ fs.take j → anyM ty ss g ds = false) ∧ r = C20 ty a ss.length cap X ∧ TmArr w' X.toArray f) ∨ ((∀ f, f ∈ fs → anyM ty ss f ds = false) ∧ r = Z20)

set_option maxRecDepth 20000 in
set_option maxHeartbeats 4000000 in
theorem pick_sets (cap capT capS : Nat) (ty : Int) (a aT aS : Option Addr) (ss : List ByteArray) (fs : List (Nat → Option ByteArray)) (ds : List SD) (x0 x2 x3 x4 x5 r0 r2 r3 : Value) (w : World)
    (hA : Strs w a ss) (hl : ss.length < 100000) (hS : Sets w aT fs) (hfl : fs.length < 100000) (hpos : 0 < fs.length) (hD : Srvs w aS ds) (hdl : ds.length < 100000) :
    Calls Yba.prog 6 #[.agg #[x0, .slice aS ds.length capS, x2, x3, x4, x5], .agg #[r0, .slice aT fs.length capT, r2, r3], .agg F0, .slice a ss.length cap, .int .u16 ty] w fun e w' =>
      ∃ r, e = .returned (.agg r.toArray) ∧ r.length = 20 ∧ PickRes w' r fs ty a ss cap ds ∧ Below w.heap.size w w' := by
  unfold F0
  have HA : Hid (Strs w a ss) := hA
  have HS : Hid (Sets w aT fs) := hS
  have HD : Hid (Srvs w aS ds) := hD
  clear hA hS hD
  generalize hn : ss.length = n
  have Hn : Hid (ss.length = n) := hn
  generalize hq : fs.length = q at hfl hpos ⊢
  have Hq : Hid (fs.length = q) := hq
  clear hq
  have hz := Z20_len
  have hcl := C20_len ty a n cap z10_len
  have hq0 : ((q : Int) == 0) = false := by simp; omega
  have HT : Hid _ := any_meets (c := w.heap.size + 1 + 1 + 1 + 1) (cap := cap) (capS := capS) (ty := ty) (a := a) (aS := aS) (ss := ss) (ds := ds) (x0 := x0) (x2 := x2) (x3 := x3) (x4 := x4) (x5 := x5)
  generalize hTT : (#[x0, .slice aS ds.length capS, x2, x3, x4, x5] : Array Value) = T at HT ⊢
  have hT6 : T.size = 6 := by rw [← hTT]; rfl
  clear hTT
  go_enter Yba.func6, Yba.ntmps6
  go_upto_region 1 with (fail)
  have hpw := pw_made w T [r0, .slice aT q capT, r2, r3]
  generalize (((w.alloc (.cells T 49 (0, 0))).alloc (.cells [r0, .slice aT q capT, r2, r3].toArray 64 (0, 0))).alloc (.cells F8.toArray 53 (0, 0))).alloc (.cells Z20.toArray 59 (0, 0)) = W1 at hpw ⊢
  have HP : Hid (PW w W1 T [r0, .slice aT q capT, r2, r3]) := hpw
  have hsz := hpw.size
  have hl1 : (loadCells ⟨w.heap.size + 1 + 1, 0, none⟩ 8).run Yba.prog W1 = .ok F8.toArray W1 := lc_block hpw.h2 rfl
  have hset := set20 ty a n cap
  have hn2 : (W1.alloc (.cells Z20.toArray 59 (0, 0))).heap[w.heap.size + 1 + 1 + 1 + 1]? = some (.cells Z20.toArray 59 (0, 0)) := by rw [← hsz]; exact (MapKept.heap_alloc _ _).1
  have hst : (storeCells ⟨w.heap.size + 1 + 1 + 1 + 1, 0, none⟩ (C20 ty a n cap z10)).run Yba.prog (W1.alloc (.cells Z20.toArray 59 (0, 0))) = .ok () ((W1.alloc (.cells Z20.toArray 59 (0, 0))).setCells (w.heap.size + 1 + 1 + 1 + 1) 0 (C20 ty a n cap z10)) :=
    sc_block hn2 (by rw [hcl]; simp [hz]) (C20_one ty a n cap z10_one')
  clear hpw
  go_upto_region 2 with (fail)
  generalize hW2 : (W1.alloc (.cells Z20.toArray 59 (0, 0))).setCells (w.heap.size + 1 + 1 + 1 + 1) 0 (C20 ty a n cap z10) = W2
  have HW2 : Hid (QW w W2 T [r0, .slice aT q capT, r2, r3] (C20 ty a n cap z10)) := qw_made HP.out hcl hW2
  clear hW2 hst hn2 hset hl1 hsz HP
  have c1 : W2.cell? ⟨w.heap.size + 1, 1, none⟩ = some (.slice aT q capT) := by
    rw [cell_of_row _ _ 1 _ 64 (0, 0) HW2.out.h1]; rfl
  go_wp2
  clear c1
  go_loopw [26] (fun i wr => ∃ (j : Nat) (X : List Value), i = .int .i64 j ∧ j ≤ q ∧ Hid (∀ f, f ∈ fs.take j → anyM ty ss f ds = false) ∧ Hid (QW w wr T [r0, .slice aT q capT, r2, r3] (C20 ty a n cap X)) ∧ Hid (X.length = 10)) (fun i _ => q - (intOf i).toNat)
  case atStart => exact ⟨0, z10, rfl, by omega, show ∀ f, f ∈ fs.take 0 → _ from fun f h => by simp at h, HW2, z10_len⟩
  case round =>
    obtain ⟨j, X, rfl, hj, HN, HQ, HX⟩ := hrel
    by_cases hlt : j < q
    · have j1 : (j : Int) < (q : Int) := by omega
      obtain ⟨f, hf⟩ : ∃ f, fs[j]? = some f := ⟨_, List.getElem?_eq_getElem (by rw [Hq.out]; exact hlt)⟩
      obtain ⟨x, hx, m, N, D, hc, hm, hFD⟩ := (HS.out.keep HQ.out.below) j f hf
      subst hx
      have Hf : Hid (fs[j]? = some f) := hf
      have Hm : Hid (wr.ownsMap Yba.prog 9 (plainElem Yba.prog 9) m N D) := hm
      have HFD : Hid (FD D f) := hFD
      clear hf hm hFD
      go_wp2_with (fail)
      refine Calls.mono (of_any m N D f wr Hm.out HFD.out) ?_
      rintro e w1 ⟨M, rfl, hM, hB1⟩
      obtain ⟨Y, hY⟩ : ∃ Y : List Value, M = Y.toArray := ⟨M.toList, by simp⟩
      subst hY
      have hYl : Y.length = 10 := by simpa using hM.1
      have hQ1 := HQ.out.later hB1
      have hst : (storeCells ⟨w.heap.size + 1 + 1 + 1 + 1, 10, none⟩ Y).run Yba.prog w1 = .ok () (w1.setCells (w.heap.size + 1 + 1 + 1 + 1) 10 Y) :=
        sc_hi (L := A10 ty a n cap) (X := X) hQ1.h4 rfl (by rw [hYl, HX.out]) (fun v hv => hM.2.1 v (by simpa using hv))
      have h4' : (w1.setCells (w.heap.size + 1 + 1 + 1 + 1) 10 Y).heap[w.heap.size + 1 + 1 + 1 + 1]? = some (.cells (C20 ty a n cap Y).toArray 59 (0, 0)) :=
        set_hi (L := A10 ty a n cap) (X := X) hQ1.h4 rfl (by rw [hYl, HX.out])
      have hbk : ∀ k, k ≠ w.heap.size + 1 + 1 + 1 + 1 → (w1.setCells (w.heap.size + 1 + 1 + 1 + 1) 10 Y).heap[k]? = w1.heap[k]? := fun k hk => heap_setCells _ _ _ _ _ hk
      have hsz1 := hQ1.size
      have hQ2 : QW w (w1.setCells (w.heap.size + 1 + 1 + 1 + 1) 10 Y) T [r0, .slice (some x) q capT, r2, r3] (C20 ty a n cap Y) :=
        ⟨Below_setCells _ (by omega) _ _ _ hQ1.below, by rw [size_setCells]; exact hsz1, (hbk _ (by omega)).trans hQ1.h0, (hbk _ (by omega)).trans hQ1.h1, (hbk _ (by omega)).trans hQ1.h3, h4'⟩
      have hB12 : Below w.heap.size w (w1.setCells (w.heap.size + 1 + 1 + 1 + 1) 10 Y) := hQ2.below
      have hTm : TmArr (w1.setCells (w.heap.size + 1 + 1 + 1 + 1) 10 Y) Y.toArray f := TmArr.move hM (fun k es clock hk => by
        by_cases e : k = w.heap.size + 1 + 1 + 1 + 1
        · subst e; rw [hQ1.h4] at hk; simp at hk
        · exact (hbk k e).trans hk)
      have hCr : Crit (w1.setCells (w.heap.size + 1 + 1 + 1 + 1) 10 Y) (w.heap.size + 1 + 1 + 1 + 1) ty a ss cap f := crit_of (by rw [Hn.out]; exact h4') (HA.out.keep hB12) hl hTm
      have Hmet : Hid (Calls Yba.prog 13 #[Value.agg T, Value.pointer (some ⟨w.heap.size + 1 + 1 + 1 + 1, 0, none⟩)] (w1.setCells (w.heap.size + 1 + 1 + 1 + 1) 10 Y) fun e w' => e = Ending.returned (Value.bool (anyM ty ss f ds)) ∧ Below (w1.setCells (w.heap.size + 1 + 1 + 1 + 1) 10 Y).heap.size (w1.setCells (w.heap.size + 1 + 1 + 1 + 1) 10 Y) w') :=
        HT.out f _ hCr (HD.out.keep hB12) hdl
      have hl49 : (loadCells ⟨w.heap.size, 0, none⟩ 6).run Yba.prog (w1.setCells (w.heap.size + 1 + 1 + 1 + 1) 10 Y) = .ok T (w1.setCells (w.heap.size + 1 + 1 + 1 + 1) 10 Y) := by
        have := lc_block (X := T.toList) (n := 6) (t := 49) (fr := (0, 0)) (w := w1.setCells (w.heap.size + 1 + 1 + 1 + 1) 10 Y) (b := w.heap.size) (by simpa using hQ2.h0) (by simpa using hT6)
        simpa using this
      have HQ2 : Hid _ := hQ2
      have HTm : Hid (TmArr (w1.setCells (w.heap.size + 1 + 1 + 1 + 1) 10 Y) Y.toArray f) := hTm
      generalize hw2 : w1.setCells (w.heap.size + 1 + 1 + 1 + 1) 10 Y = w2 at hst Hmet hl49 HQ2 HTm
      clear hM hB1 hQ1 h4' hbk hQ2 hB12 hTm hCr hw2
      have HQ2' : Hid (QW w w2 T [r0, .slice (some x) q capT, r2, r3] (C20 ty a n cap Y)) := HQ2.out
      clear HQ2
      go_wp2_with (fail)
      refine Calls.mono Hmet.out ?_
      rintro e w3 ⟨rfl, hB3⟩
      have hQ3 := HQ2'.out.later hB3
      have hcl3 := C20_len ty a n cap hYl
      have hl59 : (loadCells ⟨w.heap.size + 1 + 1 + 1 + 1, 0, none⟩ 20).run Yba.prog w3 = .ok (C20 ty a n cap Y).toArray w3 := lc_block hQ3.h4 hcl3
      have HY1 : Hid (∀ v ∈ Y, v.oneCell' = true) := fun v hv => HTm.out.2.1 v (by simpa using hv)
      have hst59 : (storeCells ⟨w.heap.size + 1 + 1 + 1, 0, none⟩ (C20 ty a n cap Y)).run Yba.prog w3 = .ok () (w3.setCells (w.heap.size + 1 + 1 + 1) 0 (C20 ty a n cap Y)) :=
        sc_block hQ3.h3 (by rw [hcl3]; simp [hz]) (C20_one ty a n cap HY1.out)
      have hl2 : (loadCells ⟨w.heap.size + 1 + 1 + 1, 0, none⟩ 20).run Yba.prog (w3.setCells (w.heap.size + 1 + 1 + 1) 0 (C20 ty a n cap Y)) = .ok (C20 ty a n cap Y).toArray (w3.setCells (w.heap.size + 1 + 1 + 1) 0 (C20 ty a n cap Y)) :=
        lc_block (heap_whole hQ3.h3 (by rw [hcl3]; simp [hz])) hcl3
      have HQ3 : Hid (QW w w3 T [r0, .slice (some x) q capT, r2, r3] (C20 ty a n cap Y)) := hQ3
      have HTm3 : Hid (TmArr w3 Y.toArray f) := TmArr.move HTm.out (fun k es clock hk => (hB3.block k (lt_of_heap hk)).trans hk)
      clear hQ3 hB3 hst hl49 Hmet
      cases hb : anyM ty ss f ds with
      | true =>
        have Hb : Hid _ := hb
        clear hb
        go_wp2
        refine bodyPost_ret (v := .agg (C20 ty a n cap Y).toArray) ?_ rfl ⟨_, rfl, hcl3, .inl ⟨j, f, Y, Hf.out, Hb.out, HN.out, by rw [Hn.out], TmArr.move HTm3.out (fun k es clock hk => ?_)⟩, Below_setCells _ (by omega) _ _ _ HQ3.out.below⟩
        · simp [results, Yba.results6, go_sem, hl2, Result.andThen]
        · by_cases e : k = w.heap.size + 1 + 1 + 1
          · subst e; rw [HQ3.out.h3] at hk; simp at hk
          · exact (heap_setCells _ _ _ _ _ e).trans hk
      | false =>
        have Hb : Hid _ := hb
        clear hb
        go_wp2
        go_roundw
        case rel =>
          refine ⟨j + 1, Y, by simp, by omega, show ∀ g, _ → _ from fun g hg => ?_, HQ3, hYl⟩
          rw [List.take_add_one, Hf.out] at hg
          simp only [Option.toList, List.mem_append, List.mem_singleton] at hg
          rcases hg with hg | hg
          · exact HN.out g hg
          · subst hg; exact Hb.out
        case measure => simp [intOf]; omega
    · have hje : j = q := by omega
      subst hje
      have hbz := build59z wr
      have hst59 : (storeCells ⟨w.heap.size + 1 + 1 + 1, 0, none⟩ Z20).run Yba.prog wr = .ok () (wr.setCells (w.heap.size + 1 + 1 + 1) 0 Z20) := sc_block HQ.out.h3 (by simp) Z20_one
      have hl2 : (loadCells ⟨w.heap.size + 1 + 1 + 1, 0, none⟩ 20).run Yba.prog (wr.setCells (w.heap.size + 1 + 1 + 1) 0 Z20) = .ok Z20.toArray (wr.setCells (w.heap.size + 1 + 1 + 1) 0 Z20) :=
        lc_block (heap_whole HQ.out.h3 (by simp)) Z20_len
      go_wp2
      refine bodyPost_ret (v := .agg Z20.toArray) ?_ rfl ⟨_, rfl, Z20_len, .inr ⟨fun f hf => HN.out f (by rw [List.take_of_length_le (by rw [Hq.out]; exact Nat.le_refl _)]; exact hf), rfl⟩, Below_setCells _ (by omega) _ _ _ HQ.out.below⟩
      simp [results, Yba.results6, go_sem, hl2, Result.andThen]
end Go.Proofs.Ybulkamrg
