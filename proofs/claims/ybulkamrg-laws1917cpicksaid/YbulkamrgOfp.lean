/- matcherOf, a set of at most four pairs. -/
import Derived.Test.YbulkamrgOf
import Derived.Deep.MidRow
namespace Go.Proofs.Ybulkamrg
open Go.RowKit Go.Maps Go.WideMaps
attribute [-go_sem] loadCells

/-! Values of ten cells, whole -/
theorem lc_block {w : World} {b : Nat} {X : List Value} {t : TypeId} {fr : Nat × Nat} {n : Nat} (hb : w.heap[b]? = some (.cells X.toArray t fr)) (hX : X.length = n) :
    (loadCells ⟨b, 0, none⟩ n).run Yba.prog w = .ok X.toArray w := by
  rw [← hX]
  exact run_loadCells_list (P := Yba.prog) w ⟨b, 0, none⟩ X (fun j v hv => by rw [Addr.add_mid, Nat.zero_add, cell_of_row w b j _ t fr hb]; simpa using hv)
theorem sc_block {w : World} {b : Nat} {C : Array Value} {t : TypeId} {X : List Value} (hb : w.heap[b]? = some (.cells C t (0, 0))) (hX : X.length = C.size) (h1 : ∀ v ∈ X, v.oneCell' = true) :
    (storeCells ⟨b, 0, none⟩ X).run Yba.prog w = .ok () (w.setCells b 0 X) := by
  have := run_storeCells_cells (P := Yba.prog) b 0 X 0 w (fun j hj => by
    rw [Nat.zero_add, cell_of_row w b _ _ t (0, 0) hb, Array.getElem?_eq_getElem (by omega)]; rfl) (fun j hj => by simp [World.frozen?, hb]) h1
  simpa [storeCells] using this
theorem heap_set10 {b : Nat} {t : TypeId} : ∀ (X : List Value) (o : Nat) (w : World) (C : Array Value), w.heap[b]? = some (.cells C t (0, 0)) → o + X.length = C.size →
    ∃ C', (w.setCells b o X).heap[b]? = some (.cells C' t (0, 0)) ∧ C'.size = C.size ∧ (∀ j, j < o → C'[j]? = C[j]?) ∧ ∀ j, C'[o + j]? = X[j]?
  | [], o, w, C, h, hl => ⟨C, h, rfl, fun _ _ => rfl, fun j => by rw [Array.getElem?_eq_none (by simp at hl; omega)]; simp⟩
  | v :: r, o, w, C, h, hl => by
    simp only [List.length_cons] at hl
    rw [World.setCells]
    obtain ⟨C', h1, h2, h3, h4⟩ := heap_set10 r (o + 1) _ _ (heap_setCell_same w b o C t v h) (by simp; omega)
    refine ⟨C', h1, by simpa using h2, fun j hj => ?_, fun j => ?_⟩
    · rw [h3 j (by omega), Array.getElem?_setIfInBounds, if_neg (by omega)]
    · cases j with
      | zero => rw [Nat.add_zero, h3 o (by omega), Array.getElem?_setIfInBounds, if_pos rfl, if_pos (by omega)]; rfl
      | succ j => rw [show o + (j + 1) = o + 1 + j by omega, h4 j]; rfl
theorem heap_whole {b : Nat} {t : TypeId} {X : List Value} {w : World} {C : Array Value} (h : w.heap[b]? = some (.cells C t (0, 0))) (hl : X.length = C.size) : (w.setCells b 0 X).heap[b]? = some (.cells X.toArray t (0, 0)) := by
  obtain ⟨C', h1, h2, _, h4⟩ := heap_set10 X 0 w C h (by omega)
  rw [h1]
  congr 2
  apply Array.ext_getElem?
  intro j
  have := h4 j
  rw [Nat.zero_add] at this
  rw [this]; simp
theorem heap_setCells (b : Nat) : ∀ (vs : List Value) (o : Nat) (w : World) (k : Nat), k ≠ b → (w.setCells b o vs).heap[k]? = w.heap[k]?
  | [], _, _, _, _ => rfl
  | v :: r, o, w, k, h => by rw [World.setCells, heap_setCells b r _ _ k h, Below.heap_setCell _ _ _ _ h]
theorem size_setCells (b : Nat) : ∀ (vs : List Value) (o : Nat) (w : World), (w.setCells b o vs).heap.size = w.heap.size
  | [], _, _ => rfl
  | v :: r, o, w => by rw [World.setCells, size_setCells b r]; simp [World.setCell]
theorem Below_setCells {B : Nat} {a : World} (b : Nat) (hb : B ≤ b) : ∀ (vs : List Value) (o : Nat) (w : World), Below B a w → Below B a (w.setCells b o vs)
  | [], _, _, h => h
  | v :: r, o, w, h => by
    rw [World.setCells]; exact Below_setCells b hb r _ _ (h.setCell (p := ⟨b, o, none⟩) hb v)
theorem z10_one : ∀ v, v ∈ Z10 → v.oneCell' = true := by
  intro v hv
  simp only [Z10, List.mem_toArray, List.mem_cons, List.not_mem_nil, or_false] at hv
  rcases hv with h | h | h | h | h | h | h | h | h | h <;> subst h <;> rfl

theorem ranges_heap {w w' : World} {P : Program} {k : TypeId} {R : Value → Option (DataW Unit × List MemPlace)} {b r n : Nat} {D : DataW Unit} {left : Lit → Bool} {cnt : Nat} (h : w.ranges P k R b r n D left cnt)
    (hb : w'.heap[b]? = w.heap[b]?) (hr : w'.heap[r]? = w.heap[r]?) : w'.ranges P k R b r n D left cnt := by
  obtain ⟨es, clock, since, seen, c0, h1, h2, h3, h4, h5, h6⟩ := h
  exact ⟨es, clock, since, seen, c0, hb.trans h1, h2, h3, h4, hr.trans h5, h6⟩
theorem rangeLeft_heap {w w' : World} {b r : Nat} (hb : w'.heap[b]? = w.heap[b]?) (hr : w'.heap[r]? = w.heap[r]?) : w'.rangeLeft b r = w.rangeLeft b r := by
  unfold World.rangeLeft; rw [hb, hr]
theorem one_set {C : Array Value} {i : Nat} {v : Value} (h : ∀ u, u ∈ C → u.oneCell' = true) (hv : v.oneCell' = true) : ∀ u, u ∈ C.setIfInBounds i v → u.oneCell' = true := fun u hu => by
  rcases Array.mem_or_eq_of_mem_setIfInBounds hu with h' | h'
  · exact h u h'
  · rw [h']; exact hv

set_option maxRecDepth 20000 in
set_option maxHeartbeats 4000000 in
theorem of_pairs (m N : Nat) (D : DataW Unit) (f : Nat → Option ByteArray) (w : World) (hm : w.ownsMap Yba.prog 9 (plainElem Yba.prog 9) m N D) (hF : FD D f) (h4 : cnt6 f 6 ≤ 4) :
    Calls Yba.prog 12 #[.map (some m)] w fun e w' => ∃ M, e = .returned (.agg M) ∧ TmArr w' M f ∧ Below w.heap.size w w' := by
  have hm2 := (hm.alloc (.cells Z10 57 (0, 0))).alloc (.cells Z10 57 (0, 0))
  have hln := hm2.len Yba.underlying46 3
  rw [hF.size] at hln
  have Hm2 : Hid (((w.alloc (.cells Z10 57 (0, 0))).alloc (.cells Z10 57 (0, 0))).ownsMap Yba.prog 9 (plainElem Yba.prog 9) m N D) := hm2
  have HF : Hid (FD D f) := hF
  have hmlt := hm.lt
  clear hm hF hm2
  have h4' : ¬ (4 : Int) < (cnt6 f 6 : Int) := by omega
  go_enter Yba.func12, Yba.ntmps12
  go_wp2_with (at_range; refine wpList_range_own _ rfl _ 46 rfl 9 9 keyed9 Yba.underlying46 _ m N D rfl Hm2.out ?_; intro w0 hrg0 hg0 hs0)
  have HB0 : Hid (Below w.heap.size w w0) := (((Below.refl w.heap.size w).alloc (Nat.le_refl _) _).alloc (by simp) _).trans (Below.grown hg0 (by simp; omega) (fun k e => by cases e))
  have hC0 : w0.heap[w.heap.size + 1]? = some (.cells Z10 57 (0, 0)) := by
    rw [hg0.block _ (by simp) (by simp)]
    simpa using (MapKept.heap_alloc (w.alloc (.cells Z10 57 (0, 0))) (.cells Z10 57 (0, 0))).1
  have hR0 : w0.heap[w.heap.size]? = some (.cells Z10 57 (0, 0)) := by
    rw [hg0.block _ (by simp; omega) (by simp), Below.heap_alloc _ _ _ (by simp)]
    exact (MapKept.heap_alloc w (.cells Z10 57 (0, 0))).1
  have Hrg0 : Hid (w0.ranges Yba.prog 9 (plainElem Yba.prog 9) m (w.heap.size + 1 + 1) N D (Maps.has D) (Maps.size D)) := show World.ranges _ _ _ _ _ _ _ _ _ _ by simpa using hrg0
  have HC0 : Hid _ := hC0
  have HR0 : Hid _ := hR0
  clear hrg0 hg0 hC0 hR0 hln
  try go_frame
  go_loopw [4] (fun _ wr => ∃ (left : Lit → Bool) (cnt : Nat) (ps : List (Nat × ByteArray)) (C : Array Value), Hid (wr.ranges Yba.prog 9 (plainElem Yba.prog 9) m (w.heap.size + 1 + 1) N D left cnt) ∧ Hid (∀ l, left l = true → Maps.has D l = true) ∧
      Hid (PI ps left f) ∧ Hid (CI C ps) ∧ Hid (∀ v, v ∈ C → v.oneCell' = true) ∧ Hid (wr.heap[w.heap.size + 1]? = some (.cells C 57 (0, 0))) ∧ Hid (wr.heap[w.heap.size]? = some (.cells Z10 57 (0, 0))) ∧ Hid (Below w.heap.size w wr)) (fun _ wr => wr.rangeLeft m (w.heap.size + 1 + 1))
  case atStart =>
    refine ⟨Maps.has D, _, [], Z10, Hrg0, fun _ h => h, ?_, ?_, ?_, HC0, HR0, HB0⟩
    · exact ⟨fun p h => (by cases h), fun i hi h => .inl (by rw [HF.out.has i hi, h]), by simp⟩
    · exact ⟨rfl, rfl, rfl, fun j p h => by simp at h⟩
    · exact z10_one
  case round =>
    obtain ⟨left, cnt, ps, C, Hrg, Hle, HP, HCI, H1, HC, HR, HB⟩ := hrel
    go_wp2_with (at_next; refine wpList_next_tags _ rfl _ rfl m (w.heap.size + 1 + 1) N D f HF.out left cnt Hle.out rfl Hrg.out ?_ ?_)
    · intro hl0
      have hlen : ps.length = cnt6 f 6 := by
        refine Nat.le_antisymm HP.out.le ?_
        have := keys_ge f 6 (ps.map (·.1)) (fun k hk hs => by
          rcases HP.out.cover k hk hs with h | ⟨p, hp, rfl⟩
          · rw [hl0] at h; cases h
          · exact List.mem_map.2 ⟨p, hp, rfl⟩)
        simpa using this
      have hall : ∀ i, i < 6 → (f i).isSome = true → ∃ p, p ∈ ps ∧ p.1 = i := fun i hi hs => by
        rcases HP.out.cover i hi hs with h | h
        · rw [hl0] at h; cases h
        · exact h
      have Hres : Hid (Pairs ps f ∧ ps.length = cnt6 f 6) := ⟨⟨fun p hp => ⟨(HP.out.ok p hp).1, (HP.out.ok p hp).2.1⟩, hall, by omega⟩, hlen⟩
      clear hall hlen hl0
      obtain ⟨X, hX⟩ : ∃ X : List Value, C = X.toArray := ⟨C.toList, by simp⟩
      subst hX
      have hlen : X.length = 10 := by simpa using HCI.out.1
      have hl : (loadCells ⟨w.heap.size + 1, 0, none⟩ 10).run Yba.prog wr = .ok X.toArray wr := lc_block HC.out hlen
      have hst : (storeCells ⟨w.heap.size, 0, none⟩ X).run Yba.prog wr = .ok () (wr.setCells w.heap.size 0 X) := sc_block HR.out (by simpa using hlen) (fun v hv => H1.out v (by simpa using hv))
      have hl2 : (loadCells ⟨w.heap.size, 0, none⟩ 10).run Yba.prog (wr.setCells w.heap.size 0 X) = .ok X.toArray (wr.setCells w.heap.size 0 X) := by
        exact lc_block (heap_whole HR.out (by simpa using hlen)) hlen
      go_wp2
      refine bodyPost_ret (v := .agg X.toArray) ?_ rfl ⟨_, rfl, ⟨by simpa using hlen, H1.out, .inl ⟨h4, ps, Hres.out.1, Hres.out.2, HCI.out.2.1, HCI.out.2.2.1, HCI.out.2.2.2⟩⟩, Below_setCells _ (Nat.le_refl _) _ _ _ HB.out⟩
      simp [results, Yba.results12, go_sem, hl2, Result.andThen]
    · intro i v w1 cnt1 hi hv hli hrg1 hlt1 hg1 hs1 hen
      have hP1 := HP.out.snoc hi hv hli
      have hle1 := hP1.le
      have hlen4 : ps.length < 4 := by simp at hle1; omega
      have hCI1 := HCI.out.snoc hlen4 i v
      have hB1 : Below w.heap.size w w1 := HB.out.trans (Below.grown hg1 HB.out.size (fun k e => by cases e; omega))
      have hC1 : w1.heap[w.heap.size + 1]? = some (.cells C 57 (0, 0)) := (hg1.block _ (lt_of_heap HC.out) (by simp)).trans HC.out
      have hR1 : w1.heap[w.heap.size]? = some (.cells Z10 57 (0, 0)) := (hg1.block _ (lt_of_heap HR.out) (by simp; omega)).trans HR.out
      have hmeas : w1.rangeLeft m (w.heap.size + 1 + 1) < wr.rangeLeft m (w.heap.size + 1 + 1) := by rw [hrg1.left_eq, Hrg.out.left_eq]; exact hlt1
      have Hrg1 : Hid (w1.ranges Yba.prog 9 (plainElem Yba.prog 9) m (w.heap.size + 1 + 1) N D (fun z => left z && !z.sameKey (kL i)) cnt1) := hrg1
      have HP1 : Hid (PI (ps ++ [(i, v)]) (fun z => left z && !z.sameKey (kL i)) f) := hP1
      have HCI1 : Hid (CI (((C.setIfInBounds (ps.length * 2) (.string (ks i))).setIfInBounds (ps.length * 2 + 1) (.string v)).setIfInBounds 8 (.int .i64 ((ps.length : Int) + 1))) (ps ++ [(i, v)])) := hCI1
      have HC1 : Hid (w1.heap[w.heap.size + 1]? = some (.cells C 57 (0, 0))) := hC1
      have HR1 : Hid (w1.heap[w.heap.size]? = some (.cells Z10 57 (0, 0))) := hR1
      have HB1 : Hid (Below w.heap.size w w1) := hB1
      have hCs := HCI.out.1
      have hn8 : C[8]? = some (.int .i64 (ps.length : Nat)) := HCI.out.2.2.1
      clear hP1 hCI1 hB1 hR1 hrg1 hg1 hli hv hle1
      generalize hn : ps.length = n at hlen4 hn8 HCI1
      have Hn : Hid (ps.length = n) := hn
      clear hn
      have e8 : w1.cell? ⟨w.heap.size + 1, 8, none⟩ = some (.int .i64 (n : Int)) := by rw [cell_of_row w1 _ 8 _ 57 (0, 0) hC1]; exact hn8
      obtain ⟨x0, hx0⟩ : ∃ x, C[n * 2]? = some x := ⟨_, Array.getElem?_eq_getElem (by omega)⟩
      obtain ⟨x1, hx1⟩ : ∃ x, C[n * 2 + 1]? = some x := ⟨_, Array.getElem?_eq_getElem (by omega)⟩
      have e0 : w1.cell? ⟨w.heap.size + 1, n * 2, none⟩ = some x0 := by rw [cell_of_row w1 _ _ _ 57 (0, 0) hC1]; exact hx0
      have e1 : w1.cell? ⟨w.heap.size + 1, n * 2 + 1, none⟩ = some x1 := by rw [cell_of_row w1 _ _ _ 57 (0, 0) hC1]; exact hx1
      have ef : ∀ o, w1.frozen? ⟨w.heap.size + 1, o, none⟩ = false := fun o => by simp [World.frozen?, hC1]
      have g0 := ef (n * 2)
      have g1 := ef (n * 2 + 1)
      have g8 := ef 8
      have n4 : (n : Int) < 4 := by omega
      clear ef hC1 hx0 hx1 hn8
      go_wp2
      have hbk : ∀ k, k ≠ w.heap.size + 1 → (((w1.setCell ⟨w.heap.size + 1, n * 2, none⟩ (.string (ks i))).setCell ⟨w.heap.size + 1, n * 2 + 1, none⟩ (.string v)).setCell ⟨w.heap.size + 1, 8, none⟩ (.int .i64 (n + 1))).heap[k]? = w1.heap[k]? := fun k hk => by
        rw [Below.heap_setCell _ _ _ _ hk, Below.heap_setCell _ _ _ _ hk, Below.heap_setCell _ _ _ _ hk]
      go_roundw
      case rel =>
        refine ⟨_, cnt1, ps ++ [(i, v)], _, ranges_heap Hrg1.out (hbk m (by omega)) (hbk _ (by omega)), show ∀ l, _ from fun l hl => ?_, HP1, HCI1, show ∀ u, _ from fun u hu => ?_, ?_, (hbk _ (by omega)).trans HR1.out, ?_⟩
        · simp only [Bool.and_eq_true] at hl
          exact Hle.out l hl.1
        · exact one_set (one_set (one_set H1.out rfl) rfl) rfl u hu
        · exact heap_setCell_same _ _ _ _ _ _ (heap_setCell_same _ _ _ _ _ _ (heap_setCell_same _ _ _ _ _ _ HC1.out))
        · exact ((HB1.out.setCell (p := ⟨w.heap.size + 1, n * 2, none⟩) (by show w.heap.size ≤ w.heap.size + 1; omega) _).setCell (p := ⟨w.heap.size + 1, n * 2 + 1, none⟩) (by show w.heap.size ≤ w.heap.size + 1; omega) _).setCell (p := ⟨w.heap.size + 1, 8, none⟩) (by show w.heap.size ≤ w.heap.size + 1; omega) _
      case measure =>
        have := rangeLeft_heap (hbk m (by omega)) (hbk (w.heap.size + 1 + 1) (by omega))
        rw [this]; exact hmeas
theorem of_any (m N : Nat) (D : DataW Unit) (f : Nat → Option ByteArray) (w : World) (hm : w.ownsMap Yba.prog 9 (plainElem Yba.prog 9) m N D) (hF : FD D f) :
    Calls Yba.prog 12 #[.map (some m)] w fun e w' => ∃ M, e = .returned (.agg M) ∧ TmArr w' M f ∧ Below w.heap.size w w' := by
  by_cases h : cnt6 f 6 ≤ 4
  · exact of_pairs m N D f w hm hF h
  · exact of_set m N D f w hm hF (by omega)
end Go.Proofs.Ybulkamrg
