/- What the law's second loop makes. -/
import Derived.Test.YbulkamjsALaw1
import Derived.Test.YbulkamjsRec
namespace Go.Proofs.Ybulkamjs
open Go.RowKit Go.Maps Go.WideMaps
set_option linter.unusedSimpArgs false
set_option linter.unusedVariables false
attribute [-simp] Yba.zeroValue40 Yba.typeInfo40 Yba.zeroValue61 Yba.typeInfo61 Yba.zeroValue63 Yba.typeInfo63
/-- The zero query; the zero item. -/
noncomputable def z61 : List Value := Yba.zeroCells61.toList
noncomputable def z63 : List Value := Yba.zeroCells63.toList
theorem zero61 (w : World) : (zeroValue 61).run Yba.prog w = .ok (.agg z61.toArray) w := by rw [Yba.zeroValue61]; rfl
theorem zero63 (w : World) : (zeroValue 63).run Yba.prog w = .ok (.agg z63.toArray) w := by rw [Yba.zeroValue63]; rfl
theorem z61_len : z61.length = 134 := by kernel_rfl
theorem z63_len : z63.length = 138 := by kernel_rfl
attribute [local simp] zero40 zero61 zero63
attribute [local irreducible] z61 z63

theorem fold_put (o : Nat) : ∀ (L : List Value) (k : Nat) (C : Array Value), List.foldl (fun cs x => cs.setIfInBounds (o + x.2) x.1) C (L.zipIdx k) = putA C (o + k) L
  | [], _, _ => rfl
  | v :: r, k, C => by
    rw [List.zipIdx_cons, List.foldl_cons, putA]
    exact fold_put o r (k + 1) _
theorem z61_from : (z61.drop 67).take 64 = zid := by unfold z61; kernel_rfl
/-- A lookup's item. -/
noncomputable def qA (d j : Nat) : Array Value := (putA (((z63.set 0 (.int .u64 (d : Nat))).set 1 (.int .i64 0)).set 2 (.pointer none)).toArray 3 (z61.set 0 (.int .u64 ((j : Int) + 1)))).setIfInBounds 137 (.int .i64 (j : Nat))
theorem qA_size (d j : Nat) : (qA d j).size = 138 := by simp [qA, size_putA, z63_len]
theorem qA_get (d j o : Nat) (h : o ≠ 137) : (qA d j)[o]? = if 3 ≤ o ∧ o < 137 then (z61.set 0 (.int .u64 ((j : Int) + 1)))[o - 3]? else (((z63.set 0 (.int .u64 (d : Nat))).set 1 (.int .i64 0)).set 2 (.pointer none))[o]? := by
  rw [qA, Array.getElem?_setIfInBounds, if_neg (fun e => h e.symm), get_putA _ _ _ _ (by simp [z61_len, z63_len])]
  simp [z61_len]
theorem qA_item (d j : Nat) : ItemQ (qA d j) (j + 1) ∧ (qA d j)[0]? = some (.int .u64 (d : Nat)) ∧ (qA d j)[1]? = some (.int .i64 0) ∧ (qA d j)[2]? = some (.pointer none) ∧ (qA d j)[137]? = some (.int .i64 (j : Nat)) := by
  refine ⟨⟨qA_size d j, ?_, fun k hk => ?_⟩, ?_, ?_, ?_, ?_⟩
  · rw [qA_get _ _ _ (by omega), if_pos (by omega)]; simp [z61_len]
  · rw [qA_get _ _ _ (by omega), if_pos (by omega), show 70 + k - 3 = 67 + k by omega, List.getElem?_set, if_neg (by omega)]
    have h1 : ((z61.drop 67).take 64)[k]? = some (.int .u8 0) := by rw [z61_from]; exact zid_get k hk
    rw [List.getElem?_take, if_pos hk, List.getElem?_drop] at h1
    exact h1
  · rw [qA_get _ _ _ (by omega), if_neg (by omega)]; simp [z63_len]
  · rw [qA_get _ _ _ (by omega), if_neg (by omega)]; simp [z63_len]
  · rw [qA_get _ _ _ (by omega), if_neg (by omega)]; simp [z63_len]
  · rw [qA, Array.getElem?_setIfInBounds, if_pos rfl, if_pos (by simp [size_putA, z63_len])]
theorem info56 : ∃ ti, Yba.prog.info? 56 = some ti ∧ ti.zero = some (.pointer none) ∧ ti.size = 1 ∧ ti.bytes = 8 := by
  have h1 : (Yba.prog.info? 56).map (fun t => (t.size, t.bytes)) = some (1, 8) := by kernel_rfl
  have h2 : (Yba.prog.info? 56).bind (fun t => t.zero) = some (.pointer none) := by kernel_rfl
  cases h : Yba.prog.info? 56 with
  | none => rw [h] at h1; cases h1
  | some ti =>
    rw [h] at h1 h2
    simp only [Option.map_some, Option.some.injEq, Prod.mk.injEq, Option.bind_some] at h1 h2
    exact ⟨ti, rfl, h2, h1.1, h1.2⟩
theorem ownsRow_move {w w' : World} {base : Nat} {e : TypeId} {size : Nat} {v : Value} {n : Nat} {xs : List Value} (h : w.ownsRow base e size v n xs) (hb : ∀ g, v.ownBlock = some g → w'.heap[g]? = w.heap[g]?) : w'.ownsRow base e size v n xs := by
  obtain ⟨hl, ⟨h1, h2⟩ | ⟨g, cap, cur, rfl, h2, h3, h4⟩⟩ := h
  · exact ⟨hl, .inl ⟨h1, h2⟩⟩
  · exact ⟨hl, .inr ⟨g, cap, cur, rfl, h2, (hb g rfl).trans h3, h4⟩⟩
theorem ownsRow_block {w : World} {base : Nat} {e : TypeId} {size : Nat} {v : Value} {n : Nat} {xs : List Value} (h : w.ownsRow base e size v n xs) {g : Nat} (hg : v.ownBlock = some g) : base ≤ g ∧ ∃ cur, w.heap[g]? = some (.cells cur e (0, 0)) := by
  obtain ⟨hl, ⟨h1, h2⟩ | ⟨g', cap, cur, rfl, h2, h3, h4⟩⟩ := h
  · subst h1; cases hg
  · have : g' = g := by simpa [Value.ownBlock] using hg
    subst this
    exact ⟨h2, cur, h3⟩
/-- What the loop over the lookups has made. -/
structure BldQ (w0 : World) (l mn mp : Nat) (zs : List Int) (wr : World) (j : Nat) (its : List Rec) (q : Value) : Prop where
  len : its.length = j
  obj : wr.heap[l]? = some (lkObj mn mp q)
  row : wr.ownsRow w0.heap.size 56 1 q its.length (its.map fun r => .pointer (some ⟨r.b, 0, none⟩))
  it : ∀ (k : Nat) (r : Rec), its[k]? = some r → wr.heap[r.b]? = some (.cells r.A 63 (0, 0)) ∧ zs[k]? = some (r.d : Int) ∧ w0.heap.size ≤ r.b ∧ ItemQ r.A (k + 1) ∧ r.A[0]? = some (.int .u64 (r.d : Nat)) ∧ r.A[1]? = some (.int .i64 0) ∧ r.A[2]? = some (.pointer none) ∧ r.A[137]? = some (.int .i64 (k : Nat)) ∧ r.sz = k + 1
  inj : RInj its
  num : ∃ N D, wr.ownsMap Yba.prog 25 R1 mn N D ∧ N ≤ j ∧ Maps.size D = j ∧ (∀ k, k < j → Maps.has D (.int .u64 ((k + 1 : Nat) : Int)) = true) ∧ ∀ k, j ≤ k → Maps.has D (.int .u64 ((k + 1 : Nat) : Int)) = false
  pend : Pend wr mp j
  below : Below w0.heap.size w0 wr
/-- How many of the first j are later than t. -/
def cntZ (zs : List Int) (t : Nat) : Nat → Nat
  | 0 => 0
  | j + 1 => cntZ zs t j + if (t : Int) < zs.getD j 0 then 1 else 0


theorem map_nth {α β : Type} {f : α → β} {L : List α} {k : Nat} {x : α} (h : L[k]? = some x) : (L.map f)[k]? = some (f x) := by rw [List.getElem?_map, h]; rfl
theorem BldQ.step {w0 wr W4 W5 W7 W' : World} {l mn mp j d ib N : Nat} {zs : List Int} {its : List Rec} {q q' : Value} {D : DataW Unit} (h : BldQ w0 l mn mp zs wr j its q) (hj : j < 1024) (hz : zs[j]? = some (d : Int))
    (hmn0 : w0.heap.size ≤ mn) (hmp0 : w0.heap.size ≤ mp) (hl0 : w0.heap.size ≤ l) (hmm : mn ≠ mp) (hB4 : Below wr.heap.size wr W4) (hs3 : wr.heap.size ≤ ib) (hib : W4.heap[ib]? = some (.cells (qA d j) 63 (0, 0)))
    (hK5 : Kept (fun k => k = mn) W4 W5) (hmn5 : W5.ownsMap Yba.prog 25 R1 mn (N + 1) (D.put (.int .u64 ((j : Int) + 1)) .nil))
    (hD : N ≤ j ∧ Maps.size D = j ∧ (∀ k, k < j → Maps.has D (.int .u64 ((k + 1 : Nat) : Int)) = true) ∧ (∀ k, j ≤ k → Maps.has D (.int .u64 ((k + 1 : Nat) : Int)) = false) ∧ IsMap D ∧ Tidy D)
    (hK7 : Kept (fun k => q.ownBlock = some k) W5 W7) (hrow7 : W7.ownsRow w0.heap.size 56 1 q' (its.length + 1) ((its.map fun r => .pointer (some ⟨r.b, 0, none⟩)) ++ [.pointer (some ⟨ib, 0, none⟩)]))
    (hW' : W' = setB (W7.setCell ⟨l, 1, none⟩ q').drew mp (.map #[pe ((j : Int) + 1)] 1)) : BldQ w0 l mn mp zs W' (j + 1) (its ++ [⟨ib, 0, d, j + 1, qA d j⟩]) q' := by
  obtain ⟨hN, hsz, hhas, hnot, hmap, htidy⟩ := hD
  obtain ⟨N0, D0, hmn, _⟩ := h.num
  have hilen := h.len
  have hlw : l < wr.heap.size := lt_of_heap h.obj
  have hs4 := hB4.size
  have hs5 := hK5.size
  have hs7 := hK7.size
  have nl : mn ≠ l := ownsMap_ne hmn h.obj
  have pl : mp ≠ l := h.pend.ne h.obj
  have qb : ∀ g, q.ownBlock = some g → w0.heap.size ≤ g ∧ ∃ cur, wr.heap[g]? = some (.cells cur 56 (0, 0)) := fun g hg => ownsRow_block h.row hg
  have ql : q.ownBlock ≠ some l := fun e => blk_ne (qb l e).2.choose_spec h.obj (by decide) rfl
  have qn : q.ownBlock ≠ some mn := fun e => ownsMap_ne hmn (qb mn e).2.choose_spec rfl
  have qp : q.ownBlock ≠ some mp := fun e => h.pend.ne (qb mp e).2.choose_spec rfl
  have ho7 : W7.heap[l]? = some (lkObj mn mp q) := by
    rw [hK7.block l (by omega) ql, hK5.block l (by omega) (fun e => nl e.symm), hB4.block l hlw]; exact h.obj
  have hlp : l ≠ mp := fun e => pl e.symm
  -- behind W4
  have K4 : Kept (fun k => k = mn ∨ q.ownBlock = some k ∨ k = l ∨ k = mp) W4 W' := by
    rw [hW']
    refine Kept.setB (Kept.drew (Kept.setCell ?_ _ (fun _ => .inr (.inr (.inl rfl))) _)) mp _ (fun _ => .inr (.inr (.inr rfl)))
    exact (hK5.mono (fun k _ e => .inl e)).trans hK7 (fun k _ e => .inr (.inl e))
  have K0 : Kept (fun k => k = mn ∨ q.ownBlock = some k ∨ k = l ∨ k = mp) wr W' := (show Kept _ wr W4 from ⟨hB4.os, hB4.tape, hB4.output, hB4.size, fun k hk _ => hB4.block k hk⟩).trans K4 (fun _ _ h => h)
  have e7 : ∀ k, k ≠ l → k ≠ mp → W'.heap[k]? = W7.heap[k]? := fun k h1 h2 => by
    rw [hW', setB_ne h2]
    exact Below.heap_setCell _ _ _ _ (fun e => h1 e)
  have hmn7 : W7.ownsMap Yba.prog 25 R1 mn (N + 1) (D.put (.int .u64 ((j : Int) + 1)) .nil) := ownsMap_heap hmn5 (hK7.block mn (ownsMap_lt hmn5) qn)
  have hmp7 : W7.heap[mp]? = wr.heap[mp]? := by
    have := h.pend.lt
    rw [hK7.block mp (by omega) qp, hK5.block mp (by omega) (fun e => hmm e.symm), hB4.block mp this]
  have hp7 : Pend W7 mp j := h.pend.move hmp7
  have q'b : ∀ g, q'.ownBlock = some g → w0.heap.size ≤ g ∧ ∃ cur, W7.heap[g]? = some (.cells cur 56 (0, 0)) := fun g hg => ownsRow_block hrow7 hg
  have itb : ∀ (k : Nat) (r : Rec), its[k]? = some r → W'.heap[r.b]? = some (.cells r.A 63 (0, 0)) ∧ r.b < wr.heap.size := fun k r hr => by
    have h1 := (h.it k r hr).1
    refine ⟨?_, lt_of_heap h1⟩
    rw [K0.block r.b (lt_of_heap h1) ?_]; exact h1
    rintro (e | e | e | e)
    · exact ownsMap_ne hmn h1 e.symm
    · exact blk_ne (qb _ e).2.choose_spec h1 (by decide) rfl
    · exact blk_ne h1 h.obj (by decide) e
    · exact h.pend.ne h1 e.symm
  refine ⟨by simp [hilen], ?_, ?_, ?_, ?_, ?_, ?_, ?_⟩
  · rw [hW', setB_ne hlp]
    have := heap_setCell_same W7 l 1 _ 69 q' ho7
    exact this
  · have hr : W'.ownsRow w0.heap.size 56 1 q' (its.length + 1) ((its.map fun r => .pointer (some ⟨r.b, 0, none⟩)) ++ [.pointer (some ⟨ib, 0, none⟩)]) := ownsRow_move hrow7 (fun g hg => by
      obtain ⟨_, cur, hc⟩ := q'b g hg
      exact e7 g (fun e => blk_ne hc ho7 (by decide) e) (fun e => hp7.ne hc e.symm))
    have e1 : (its ++ [(⟨ib, 0, d, j + 1, qA d j⟩ : Rec)]).length = its.length + 1 := by simp
    rw [e1, List.map_append]; exact hr
  · intro k r hr
    rcases snoc_get hr with ⟨hk, hr'⟩ | ⟨hk, rfl⟩
    · obtain ⟨_, h2⟩ := h.it k r hr'
      exact ⟨(itb k r hr').1, h2⟩
    · rw [hilen] at hk; subst hk
      obtain ⟨i1, i2, i3, i4, i5⟩ := qA_item d k
      refine ⟨?_, hz, ?_, i1, i2, i3, i4, i5, rfl⟩
      · show W'.heap[ib]? = _
        rw [K4.block ib (lt_of_heap hib) ?_]; exact hib
        rintro (e | e | e | e)
        · have := ownsMap_lt hmn; omega
        · have := lt_of_heap (qb _ e).2.choose_spec; omega
        · omega
        · have := h.pend.lt; omega
      · show w0.heap.size ≤ ib
        have := h.below.size; omega
  · refine h.inj.snoc (fun k r hr e => ?_)
    have h1 := (itb k r hr).2
    have e' : r.b = ib := e
    omega
  · refine ⟨N + 1, D.put (.int .u64 ((j : Int) + 1)) .nil, ownsMap_heap hmn7 (e7 mn nl hmm), by omega, ?_, fun k hk => ?_, fun k hk => ?_⟩
    · have h0 := hnot j (Nat.le_refl _)
      have ec : ((j + 1 : Nat) : Int) = (j : Int) + 1 := by omega
      rw [ec] at h0
      rw [size_put htidy, h0, hsz]; simp
    · by_cases e : k = j
      · subst e
        have ec : ((k + 1 : Nat) : Int) = (k : Int) + 1 := by omega
        have hk5 := keyed25.key (key25 (show k + 1 < 100000 by omega))
        rw [ec] at hk5 ⊢
        exact has_put_same hmap hk5 _
      · rw [has_put_other (fun e' => e (by injection e' with _ e'; omega))]
        exact hhas k (by omega)
    · rw [has_put_other (fun e' => by injection e' with _ e'; omega)]
      exact hnot k (by omega)
  · refine .inr ?_
    have ec : ((j + 1 : Nat) : Int) = (j : Int) + 1 := by omega
    rw [hW', ec]
    exact setB_at (by have := h.pend.lt; show mp < (W7.setCell _ _).heap.size; simp [World.setCell]; omega)
  · refine h.below.trans (K0.below (B := w0.heap.size) ?_ h.below.size)
    rintro k (e | e | e | e)
    · omega
    · exact (qb k e).1
    · omega
    · omega
/-- The lookups that stand when the loop is through. -/
theorem BldQ.lk {w0 wr : World} {l mn mp m : Nat} {zs : List Int} {its : List Rec} {q : Value} (h : BldQ w0 l mn mp zs wr m its q) (hm : m ≤ 1024) (hzr : ∀ z ∈ zs, 0 ≤ z ∧ z < 65536) (hzs : ∀ (i j : Nat) (a b : Int), i ≤ j → zs[i]? = some a → zs[j]? = some b → a ≤ b)
    (hmn0 : w0.heap.size ≤ mn) (hmp0 : w0.heap.size ≤ mp) (hl0 : w0.heap.size ≤ l) (hmm : mn ≠ mp) (t : Nat) :
    ∃ bkq capq, Lk (fun b => (rF its b).A) (fun b => (rF its b).d) (fun b => (rF its b).sz) wr l bkq mn mp capq m (fF its) ∧ (∀ k, LkO l bkq mn mp m (fF its) k → w0.heap.size ≤ k) ∧ cntZ zs t m = sumF (ind (fun b => (rF its b).d) t) (fF its) m := by
  have hlen := h.len
  subst hlen
  have hdb : ∀ (k : Nat) (r : Rec), its[k]? = some r → r.d < 65536 := fun k r hr => by
    have := hzr _ (List.mem_of_getElem? (h.it k r hr).2.1); omega
  obtain ⟨qa, bkq, capq, hq, hqa, hc1, hc2, hqu⟩ := qu_of (tp := 56) (ti := 63) (io := 137) (base := w0.heap.size) (cap := 0) h.inj h.row (fun k r hr => by
    obtain ⟨h1, h2, h3, h4, h5, h6, h7, h8, _⟩ := h.it k r hr
    exact ⟨h1, hdb k r hr, by rw [h4.size]; omega, h5, h6, h7, h8⟩) (fun k r hr e => blk_ne (ownsRow_block h.row e.symm).2.choose_spec (h.it k r hr).1 (by decide) rfl)
  obtain ⟨N, D, hmn, hN, hsz, hhas, _⟩ := h.num
  refine ⟨bkq, capq, ⟨⟨qa, by rw [← hq]; exact h.obj, fun h0 => (hqa h0).1⟩, hqu, heap_of h.inj (fun i j r r' hij hr hr' => ?_), fun k hk => ?_, fun i j hi hj e => ?_, ⟨N, D, hmn, hsz, fun k hk => ?_⟩, h.pend, hmm, hc1, by unfold maxLen at hc2; omega, by omega⟩, ?_, ?_⟩
  · have := hzs i j _ _ hij (h.it i r hr).2.1 (h.it j r' hr').2.1
    omega
  · obtain ⟨r, hr⟩ := get_rec hk
    show ItemQ (rF its (fF its k)).A (rF its (fF its k)).sz ∧ (rF its (fF its k)).sz < 100000
    rw [rF_at h.inj hr]
    obtain ⟨h1, h2, h3, h4, h5, h6, h7, h8, h9⟩ := h.it k r hr
    rw [h9]; exact ⟨h4, by omega⟩
  · obtain ⟨r, hr⟩ := get_rec hi
    obtain ⟨r', hr'⟩ := get_rec hj
    have e' : (rF its (fF its i)).sz = (rF its (fF its j)).sz := e
    rw [rF_at h.inj hr, rF_at h.inj hr'] at e'
    have h9 := (h.it i r hr).2.2.2.2.2.2.2.2
    have h9' := (h.it j r' hr').2.2.2.2.2.2.2.2
    omega
  · obtain ⟨r, hr⟩ := get_rec hk
    show Maps.has D (.int .u64 (((rF its (fF its k)).sz : Nat) : Int)) = true
    rw [rF_at h.inj hr, (h.it k r hr).2.2.2.2.2.2.2.2]
    exact hhas k hk
  · rintro k (e | ⟨h0, e⟩ | e | e | ⟨i, hi, e⟩)
    · omega
    · rw [e]; exact (hqa h0).2
    · omega
    · omega
    · obtain ⟨r, hr⟩ := get_rec hi
      rw [e, fF_at hr]; exact (h.it i r hr).2.2.1
  · have : ∀ n, n ≤ its.length → cntZ zs t n = sumF (ind (fun b => (rF its b).d) t) (fF its) n := by
      intro n
      induction n with
      | zero => intro _; rfl
      | succ n ih =>
        intro hn
        obtain ⟨r, hr⟩ := get_rec (show n < its.length by omega)
        rw [cntZ, sumF, ih (by omega)]
        have e1 : ind (fun b => (rF its b).d) t (fF its n) = if t < r.d then 1 else 0 := by
          show (if t < (rF its (fF its n)).d then 1 else 0) = _
          rw [rF_at h.inj hr]
        have e2 : zs.getD n 0 = (r.d : Int) := by rw [List.getD_eq_getElem?_getD, (h.it n r hr).2.1]; rfl
        rw [e1, e2]
        by_cases hh : t < r.d
        · rw [if_pos hh, if_pos (by omega)]
        · rw [if_neg hh, if_neg (by omega)]
    exact this _ (Nat.le_refl _)
theorem pend_entry {w : World} {m j : Nat} (h : Pend w m j) : ∃ w9, (Instr.mapEntry 67 (.map (some m)) (.agg zid.toArray)).run Yba.prog w = .ok (.tuple #[.int .i64 (j : Nat), .int .i64 0]) w9 ∧ w9.heap[m]? = some (.map #[pe (j : Nat)] 1) ∧ (∀ o, setB w9 m o = setB w m o) ∧ ∀ k, k ≠ m → w9.heap[k]? = w.heap[k]? := by
  rcases h with ⟨h0, h⟩ | h
  · have h1 := entry_nil h
    unfold zv at h1
    rw [h0]
    exact ⟨_, h1, setB_at (lt_of_heap h), fun o => by simp [setB], fun k hk => setB_ne hk⟩
  · have h1 := entry_one h
    unfold zv at h1
    exact ⟨_, h1, h, fun _ => rfl, fun _ _ => rfl⟩
theorem cntZ_le (zs : List Int) (t : Nat) : ∀ j, cntZ zs t j ≤ j
  | 0 => Nat.le_refl _
  | j + 1 => by
    have := cntZ_le zs t j
    rw [cntZ]
    split <;> omega
end Go.Proofs.Ybulkamjs
