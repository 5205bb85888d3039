/- (*store).remove of the item that ends soonest. -/
import Derived.Test.YbulkamjsDueS
import Derived.Test.YbulkamjsKeys
namespace Go.Proofs.Ybulkamjs
open Go.RowKit Go.Maps Go.WideMaps
set_option linter.unusedSimpArgs false
set_option linter.unusedVariables false

/-- How the elements of the two maps are told: of byValue nothing; of byKey the block of the slice of one. -/
def R1 (_ : Value) : Option (DataW Unit × List MemPlace) := some (.nil, [])
def R2 (v : Value) : Option (DataW Unit × List MemPlace) := match v with
  | .slice (some ⟨b, 0, none⟩) 1 1 => some (.lit (.int .u64 b), [])
  | _ => some (.nil, [])
theorem R2_slice (b : Nat) : R2 (.slice (some ⟨b, 0, none⟩) 1 1) = some (.lit (.int .u64 b), []) := rfl
theorem R2_inv {v : Value} {b : Int} {ps : List MemPlace} (h : R2 v = some (.lit (.int .u64 b), ps)) : ∃ c : Nat, (c : Int) = b ∧ v = .slice (some ⟨c, 0, none⟩) 1 1 := by
  unfold R2 at h
  split at h
  · simp at h; exact ⟨_, h.1, rfl⟩
  · simp at h
theorem Kept.turned {own : Nat → Prop} {a w w' : World} {b : Nat} (h : Kept own a w) (ht : w.mapTurned w' b) (hb : b < a.heap.size → own b) : Kept own a w' := by
  obtain ⟨es, clock, es', clock', h1, rfl⟩ := ht
  exact h.trans (own' := fun k => k = b) ⟨rfl, rfl, rfl, by simp [Go.ChangeMaps.setBlock], fun k _ hk => Go.ChangeMaps.heap_setBlock_other h1 _ hk⟩ (fun i hi e => e ▸ hb (e ▸ hi))

def stObj (cp bys : Int) (mv mk : Nat) (q : Value) (ch : Int) : Obj := .cells #[.int .i64 cp, .int .i64 bys, .map (some mv), .map (some mk), q, .int .u64 ch] 38 (0, 0)
theorem st_cell {w : World} {s mv mk : Nat} {cp bys ch : Int} {q : Value} (h : w.heap[s]? = some (stObj cp bys mv mk q ch)) (j : Nat) : w.cell? ⟨s, j, none⟩ = #[.int .i64 cp, .int .i64 bys, .map (some mv), .map (some mk), q, .int .u64 ch][j]? := cell_of_row w s j _ 38 (0, 0) h
theorem st_frozen {w : World} {s mv mk : Nat} {cp bys ch : Int} {q : Value} (h : w.heap[s]? = some (stObj cp bys mv mk q ch)) (j : Nat) : w.frozen? ⟨s, j, none⟩ = false := by simp [World.frozen?, h, stObj]

/-- What an item of the store holds: x is its number, n the length of its value. -/
structure ItemS (A : Array Value) (x n : Nat) : Prop where
  size : A.size = 135
  key : ∀ j, j < 129 → A[3 + j]? = (vk x)[j]?
  val : ∃ a c, A[132]? = some (.slice a n c)
  slot : A[133]? = some (.int .i64 0)

/-- The store: n values, the item in block f k at the place k of the queue. -/
structure St (X : Nat → Array Value) (key ix sl sz : Nat → Nat) (w : World) (s bk mv mk cap n : Nat) (cp bys ch : Int) (f : Nat → Nat) : Prop where
  obj : ∃ qa, w.heap[s]? = some (stObj cp bys mv mk (.slice qa n cap) ch) ∧ (0 < n → qa = some ⟨bk, 0, none⟩)
  qu : Qu 47 53 134 X key w bk n f
  heap : HeapO key f n
  item : ∀ k, k < n → ItemS (X (f k)) (ix (f k)) (sz (f k)) ∧ ix (f k) < 1024 ∧ sz (f k) < 100
  ixi : ∀ i j, i < n → j < n → ix (f i) = ix (f j) → i = j
  val : ∃ N D, w.ownsMap Yba.prog 46 R1 mv N D ∧ Maps.size D = n ∧ ∀ k, k < n → Maps.has D (kV (ix (f k))) = true
  byk : ∃ N D, w.ownsMap Yba.prog 44 R2 mk N D ∧ ∀ k, k < n → ∀ z, D.atKey (kT (ix (f k))) z = .lit (.int .u64 (sl (f k) : Nat))
  sls : ∀ k, k < n → w.heap[sl (f k)]? = some (.cells #[.pointer (some ⟨f k, 0, none⟩)] 47 (0, 0)) ∧ sl (f k) ≠ bk
  sli : ∀ i j, i < n → j < n → sl (f i) = sl (f j) → i = j
  mm : mv ≠ mk
  cap : n ≤ cap ∧ cap < 9223372036854775808 ∧ n < 100000
theorem St.obj1 {X : Nat → Array Value} {key ix sl sz f : Nat → Nat} {w : World} {s bk mv mk cap n : Nat} {cp bys ch : Int} (h : St X key ix sl sz w s bk mv mk cap n cp bys ch f) (hn : 0 < n) : w.heap[s]? = some (stObj cp bys mv mk (.slice (some ⟨bk, 0, none⟩) n cap) ch) := by
  obtain ⟨qa, h1, h2⟩ := h.obj
  rw [h1, h2 hn]
theorem St.obj2 {X : Nat → Array Value} {key ix sl sz f : Nat → Nat} {w : World} {s bk mv mk cap n : Nat} {cp bys ch : Int} (h : St X key ix sl sz w s bk mv mk cap n cp bys ch f) : ∃ C, w.heap[s]? = some (.cells C 38 (0, 0)) := by
  obtain ⟨qa, h1, _⟩ := h.obj
  exact ⟨_, h1⟩
/-- The blocks that the store owns. -/
def StO (sl : Nat → Nat) (s bk mv mk n : Nat) (f : Nat → Nat) (k : Nat) : Prop := k = s ∨ (0 < n ∧ k = bk) ∨ k = mv ∨ k = mk ∨ ∃ i, i < n ∧ (k = f i ∨ k = sl (f i))

theorem blk_ne {w : World} {b c : Nat} {A B : Array Value} {t u : TypeId} {x y : Nat × Nat} (h1 : w.heap[b]? = some (.cells A t x)) (h2 : w.heap[c]? = some (.cells B u y)) (hne : t ≠ u) : b ≠ c := by
  rintro rfl
  rw [h1] at h2
  injection h2 with h2
  injection h2 with _ h2
  exact hne h2
theorem wrap_sub {a : Int} {q : Nat} (h0 : 0 ≤ a) (h1 : a < 1000000) (hq : q < 100) : IntKind.i64.wrap (a - (q : Int)) = a - (q : Int) := IntWalk.i64_in _ (by omega)
/-- Nothing turns where a cell is given the value that it has. -/
theorem set_same {A : Array Value} {o : Nat} {v : Value} (h : A[o]? = some v) : A.setIfInBounds o v = A := by
  apply Array.ext_getElem?
  intro j
  rw [Array.getElem?_setIfInBounds]
  by_cases e : o = j
  · subst e
    rw [if_pos rfl, if_pos (Array.getElem?_eq_some_iff.1 h).1, h]
  · rw [if_neg e]
attribute [-go_sem] loadCells
attribute [-simp] Yba.zeroValue44 Yba.typeInfo44 Yba.zeroValue46 Yba.typeInfo46
def zt : List Value := zid ++ [.int .u16 0]
theorem zt_len : zt.length = 65 := by simp [zt, zid_len]
theorem zero44 (w : World) : (zeroValue 44).run Yba.prog w = .ok (.agg zt.toArray) w := by rw [Yba.zeroValue44]; rfl
attribute [local simp] zero44
theorem lcAt {w : World} {b o : Nat} {L : List Value} {C : Array Value} {t : TypeId} (hb : w.heap[b]? = some (.cells C t (0, 0))) (h : ∀ j, j < L.length → C[o + j]? = L[j]?) : (loadCells ⟨b, o, none⟩ L.length).run Yba.prog w = .ok L.toArray w :=
  run_loadCells_list (P := Yba.prog) w ⟨b, o, none⟩ L (fun j v hv => by
    have hj := (List.getElem?_eq_some_iff.1 hv).1
    rw [Addr.add_mid, cell_of_row w b _ _ t (0, 0) hb, h j hj]; exact hv)
theorem sc65 {w : World} {b : Nat} {C : Array Value} {t : TypeId} {L : List Value} (hb : w.heap[b]? = some (.cells C t (0, 0))) (hl : L.length ≤ C.size) (h1 : ∀ v ∈ L, v.oneCell' = true) : (storeCells ⟨b, 0, none⟩ L).run Yba.prog w = .ok () (w.setCells b 0 L) := by
  have := run_storeCells_cells (P := Yba.prog) b 0 L 0 w (fun j hj => by
    rw [cell_of_row w b _ _ t (0, 0) hb, Array.getElem?_eq_getElem (by omega)]; rfl) (fun j hj => by simp [World.frozen?, hb]) h1
  simpa [storeCells] using this
theorem put_all {C : Array Value} {L : List Value} (h : L.length = C.size) : putA C 0 L = L.toArray := by
  apply Array.ext_getElem?
  intro j
  rw [get_putA L 0 C j (by omega)]
  by_cases hj : j < L.length
  · rw [if_pos (by omega)]; simp
  · rw [if_neg (by omega), Array.getElem?_eq_none (by omega), Array.getElem?_eq_none (by simp; omega)]

set_option maxRecDepth 20000 in
set_option maxHeartbeats 8000000 in
theorem sremove (X : Nat → Array Value) (key ix sl sz f : Nat → Nat) (w : World) (s bk mv mk cap n : Nat) (cp bys ch : Int) (h : St X key ix sl sz w s bk mv mk cap (n + 1) cp bys ch f) (hby : 0 ≤ bys ∧ bys < 1000000) (hch : 0 ≤ ch ∧ ch < 1000000) :
    Calls Yba.prog 61 #[.pointer (some ⟨s, 0, none⟩), .pointer (some ⟨f 0, 0, none⟩)] w fun e w' => e = .returned (.tuple #[]) ∧ ∃ f', St X key ix sl sz w' s bk mv mk cap n cp (bys - sz (f 0)) (ch + 1) f' ∧
      (∀ g, sumF g f' n + g (f 0) = sumF g f (n + 1)) ∧ (∀ k, k < n → ∃ k', k' < n + 1 ∧ f' k = f k') ∧ Kept (StO sl s bk mv mk (n + 1) f) w w' := by
  have H : Hid (St X key ix sl sz w s bk mv mk cap (n + 1) cp bys ch f) := h
  have Hobj : Hid (w.heap[s]? = some (stObj cp bys mv mk (.slice (some ⟨bk, 0, none⟩) (n + 1) cap) ch)) := h.obj1 (by omega)
  obtain ⟨y0, y1⟩ := hby
  obtain ⟨z0, z1⟩ := hch
  obtain ⟨b, hb⟩ : ∃ b, b = f 0 := ⟨_, rfl⟩
  have Hb : Hid (b = f 0) := hb
  obtain ⟨⟨hI, hx, hs⟩⟩ := (⟨h.item 0 (by omega)⟩ : Nonempty _)
  have hit := h.qu.it 0 (by omega)
  rw [← hb] at hI hx hs hit ⊢
  obtain ⟨i, hi⟩ : ∃ i, i = ix b := ⟨_, rfl⟩
  rw [← hi] at hI hx
  have hA : ∀ j, j < 129 → ((X b).setIfInBounds 134 (.int .i64 (0 : Nat)))[3 + j]? = (vk i)[j]? := fun j hj => by
    rw [Array.getElem?_setIfInBounds, if_neg (by omega)]; exact hI.key j hj
  have l44 : (loadCells ⟨b, 3, none⟩ 65).run Yba.prog w = .ok (tk i).toArray w := by
    have := lcAt (o := 3) (L := tk i) hit (fun j hj => by
      rw [tk_len] at hj
      rw [hA j (by omega), vk, List.getElem?_append_left (by rw [tk_len]; omega)])
    rwa [tk_len] at this
  have hz := zt_len
  have ht := tk_len i
  have hkb : (w.alloc (.cells zt.toArray 44 (0, 0))).heap[w.heap.size]? = some (.cells zt.toArray 44 (0, 0)) := (MapKept.heap_alloc _ _).1
  have hst : (storeCells ⟨w.heap.size, 0, none⟩ (tk i)).run Yba.prog (w.alloc (.cells zt.toArray 44 (0, 0))) = .ok () ((w.alloc (.cells zt.toArray 44 (0, 0))).setCells w.heap.size 0 (tk i)) := sc65 hkb (by simp [hz, ht]) (tk_one i)
  have Hi : Hid (i = ix b) := hi
  have HI : Hid (ItemS (X b) i (sz b)) := hI
  clear hI hit hA hb hi h
  go_enter Yba.func61, Yba.ntmps61
  go_wp2
  have HK1 : Hid (Kept (fun _ => False) w ((w.alloc (.cells zt.toArray 44 (0, 0))).setCells w.heap.size 0 (tk i))) := Kept.setCells w.heap.size (fun h => absurd h (Nat.lt_irrefl _)) _ _ _ ((Kept.refl _ w).alloc _)
  have hkb1 : ((w.alloc (.cells zt.toArray 44 (0, 0))).setCells w.heap.size 0 (tk i)).heap[w.heap.size]? = some (.cells (tk i).toArray 44 (0, 0)) := by
    rw [heap_putA (tk i) 0 _ _ hkb, put_all (by simp [hz, ht])]
  clear hst hkb l44
  generalize (w.alloc (.cells zt.toArray 44 (0, 0))).setCells w.heap.size 0 (tk i) = W1 at HK1 hkb1 ⊢
  have hk1 : ∀ k, k < w.heap.size → W1.heap[k]? = w.heap[k]? := fun k hk => HK1.out.block k hk (fun h => h)
  have Hk1 : Hid (∀ k, k < w.heap.size → W1.heap[k]? = w.heap[k]?) := hk1
  have Hkb1 : Hid (W1.heap[w.heap.size]? = some (.cells (tk i).toArray 44 (0, 0))) := hkb1
  have hslt : s < w.heap.size := lt_of_heap Hobj.out
  have ho1 : W1.heap[s]? = some (stObj cp bys mv mk (.slice (some ⟨bk, 0, none⟩) (n + 1) cap) ch) := (hk1 s hslt).trans Hobj.out
  have c3 : W1.cell? ⟨s, 3, none⟩ = some (.map (some mk)) := st_cell ho1 3
  have lk : (loadCells ⟨w.heap.size, 0, none⟩ 65).run Yba.prog W1.drew = .ok (tk i).toArray W1.drew := by
    have := lcAt (w := W1.drew) (o := 0) (L := tk i) hkb1 (fun j hj => by simp)
    rwa [ht] at this
  obtain ⟨c, hc⟩ : ∃ c, c = sl b := ⟨_, rfl⟩
  have lu : (Instr.lookup 34 (.map (some mk)) (.agg (tk i).toArray) false).run Yba.prog W1.drew = .ok (.slice (some ⟨c, 0, none⟩) 1 1) W1.drew := by
    obtain ⟨N, D, hm, hat⟩ := H.out.byk
    have hm1 : W1.drew.ownsMap Yba.prog 44 R2 mk N D := ownsMap_heap hm (hk1 mk (ownsMap_lt hm))
    obtain ⟨v, ps, h1, h2⟩ := hm1.lookup keyed44 Yba.underlying34 (z := .slice none 0 0) (by kernel_rfl) (zd := .nil) (zp := []) rfl (keyT (by omega : i < 65536))
    have hat0 := hat 0 (by omega) .nil
    rw [← Hb.out, ← Hi.out] at hat0
    rw [hat0] at h2
    obtain ⟨c', e1, e2⟩ := R2_inv h2
    have : c' = c := by rw [hc]; omega
    rw [h1, e2, this]
  have Hc : Hid (c = sl b) := hc
  clear hk1 hkb1 ho1 hc
  refine region_late (S := fun w' => w' = W1.drew) (late := fun _ => false) (by kernel_rfl) ?_
  refine anyLate_takeW (i := 0) (v := .pointer (some ⟨s, 0, none⟩)) rfl (by kernel_rfl) (by kernel_rfl) (by kernel_rfl) (fun _ _ _ h => h) (.inl ⟨by kernel_rfl, fun w _ => by go_simp⟩) ?_
  simp only [Act.put, List.setIfInBounds_toArray, List.set_cons_zero, List.set_cons_succ]
  refine anyLate_takeW (i := 1) (v := .pointer (some ⟨s, 0, none⟩)) rfl (by kernel_rfl) (by kernel_rfl) (by kernel_rfl) (fun _ _ _ h => h) (.inl ⟨by kernel_rfl, fun w _ => by go_simp⟩) ?_
  simp only [Act.put, List.setIfInBounds_toArray, List.set_cons_zero, List.set_cons_succ]
  refine anyLate_takeW (i := 2) (v := .pointer (some ⟨s, 3, none⟩)) rfl (by kernel_rfl) (by kernel_rfl) (by kernel_rfl) (fun _ _ _ h => h) (.inl ⟨by kernel_rfl, fun w _ => by go_simp⟩) ?_
  simp only [Act.put, List.setIfInBounds_toArray, List.set_cons_zero, List.set_cons_succ]
  refine anyLate_take (i := 3) (v := .map (some mk)) rfl (by kernel_rfl) (by kernel_rfl) (by kernel_rfl) (fun _ _ _ h => h) rfl (by kernel_rfl) (.inl ⟨by kernel_rfl, fun w hSw => by (subst hSw; go_simp)⟩) rfl ?_
  simp only [Act.put, List.setIfInBounds_toArray, List.set_cons_zero, List.set_cons_succ]
  refine anyLate_take (i := 4) (v := .agg (tk i).toArray) rfl (by kernel_rfl) (by kernel_rfl) (by kernel_rfl) (fun _ _ _ h => h) rfl (by kernel_rfl) (.inl ⟨by kernel_rfl, fun w hSw => by (subst hSw; go_simp)⟩) rfl ?_
  simp only [Act.put, List.setIfInBounds_toArray, List.set_cons_zero, List.set_cons_succ]
  refine anyLate_take (i := 5) (v := .slice (some ⟨c, 0, none⟩) 1 1) rfl (by kernel_rfl) (by kernel_rfl) (by kernel_rfl) (fun _ _ _ h => h) rfl (by kernel_rfl) (.inl ⟨by kernel_rfl, fun w hSw => by (subst hSw; go_simp)⟩) rfl ?_
  simp only [Act.put, List.setIfInBounds_toArray, List.set_cons_zero, List.set_cons_succ]
  refine anyLate_takeW (i := 6) (v := .slice (some ⟨c, 0, none⟩) 1 1) rfl (by kernel_rfl) (by kernel_rfl) (by kernel_rfl) (fun _ _ _ h => h) (.inl ⟨by kernel_rfl, fun w _ => by go_simp⟩) ?_
  simp only [Act.put, List.setIfInBounds_toArray, List.set_cons_zero, List.set_cons_succ, List.getElem_toArray, List.getElem_cons_succ, List.getElem_cons_zero]
  refine anyLate_done (by kernel_rfl) ?_ _
  clear c3 lk lu
  generalize hW2 : W1.drew = W2
  have Hk2 : Hid (∀ k, k < w.heap.size → W2.heap[k]? = w.heap[k]?) := by
    show ∀ k, k < w.heap.size → W2.heap[k]? = w.heap[k]?
    rw [← hW2]; exact Hk1.out
  have HK2 : Hid (Kept (fun _ => False) w W2) := by
    show Kept (fun _ => False) w W2
    rw [← hW2]; exact HK1.out.drew
  have Hkb2 : Hid (W2.heap[w.heap.size]? = some (.cells (tk i).toArray 44 (0, 0))) := by
    show W2.heap[w.heap.size]? = _
    rw [← hW2]; exact Hkb1.out
  clear hW2 Hk1 HK1 Hkb1
  have hsl := H.out.sls 0 (by omega)
  rw [← Hb.out, ← Hc.out] at hsl
  have hclt : c < w.heap.size := lt_of_heap hsl.1
  have hc2 : W2.heap[c]? = some (.cells #[.pointer (some ⟨b, 0, none⟩)] 47 (0, 0)) := (Hk2.out c hclt).trans hsl.1
  have hit := H.out.qu.it 0 (by omega)
  rw [← Hb.out] at hit
  have hblt : b < w.heap.size := lt_of_heap hit
  have hb2 : W2.heap[b]? = some (.cells ((X b).setIfInBounds 134 (.int .i64 (0 : Nat))) 53 (0, 0)) := (Hk2.out b hblt).trans hit
  have cc : W2.cell? ⟨c, 0, none⟩ = some (.pointer (some ⟨b, 0, none⟩)) := by rw [cell_of_row W2 c 0 _ 47 (0, 0) hc2]; rfl
  have cb : W2.cell? ⟨b, 133, none⟩ = some (.int .i64 0) := by rw [cell_of_row W2 b 133 _ 53 (0, 0) hb2, Array.getElem?_setIfInBounds, if_neg (by omega)]; exact HI.out.slot
  have fc : W2.frozen? ⟨c, 0, none⟩ = false := by simp [World.frozen?, hc2]
  have fb : W2.frozen? ⟨b, 133, none⟩ = false := by simp [World.frozen?, hb2]
  have hcb : c ≠ b := blk_ne hc2 hb2 (by decide)
  have Hc2 : Hid (W2.heap[c]? = some (.cells #[.pointer (some ⟨b, 0, none⟩)] 47 (0, 0))) := hc2
  have Hb2 : Hid (W2.heap[b]? = some (.cells ((X b).setIfInBounds 134 (.int .i64 (0 : Nat))) 53 (0, 0))) := hb2
  have Hsl : Hid _ := hsl
  clear hc2 hb2 hit hsl
  go_wp2
  refine region_late (S := fun w' => w' = W2.drew) (late := fun i => i == 14 || i == 18) (by kernel_rfl) ?_
  refine anyLate_takeW (i := 0) (v := .slice (some ⟨c, 0, none⟩) 1 1) rfl (by kernel_rfl) (by kernel_rfl) (by kernel_rfl) (fun _ _ _ h => h) (.inl ⟨by kernel_rfl, fun w _ => by go_simp⟩) ?_
  simp only [Act.put, List.setIfInBounds_toArray, List.set_cons_zero, List.set_cons_succ]
  refine anyLate_takeW (i := 1) (v := .pointer (some ⟨b, 0, none⟩)) rfl (by kernel_rfl) (by kernel_rfl) (by kernel_rfl) (fun _ _ _ h => h) (.inl ⟨by kernel_rfl, fun w _ => by go_simp⟩) ?_
  simp only [Act.put, List.setIfInBounds_toArray, List.set_cons_zero, List.set_cons_succ]
  refine anyLate_takeW (i := 2) (v := .pointer (some ⟨b, 0, none⟩)) rfl (by kernel_rfl) (by kernel_rfl) (by kernel_rfl) (fun _ _ _ h => h) (.inl ⟨by kernel_rfl, fun w _ => by go_simp⟩) ?_
  simp only [Act.put, List.setIfInBounds_toArray, List.set_cons_zero, List.set_cons_succ]
  refine anyLate_takeW (i := 3) (v := .pointer (some ⟨b, 3, none⟩)) rfl (by kernel_rfl) (by kernel_rfl) (by kernel_rfl) (fun _ _ _ h => h) (.inl ⟨by kernel_rfl, fun w _ => by go_simp⟩) ?_
  simp only [Act.put, List.setIfInBounds_toArray, List.set_cons_zero, List.set_cons_succ]
  refine anyLate_takeW (i := 4) (v := .pointer (some ⟨b, 133, none⟩)) rfl (by kernel_rfl) (by kernel_rfl) (by kernel_rfl) (fun _ _ _ h => h) (.inl ⟨by kernel_rfl, fun w _ => by go_simp⟩) ?_
  simp only [Act.put, List.setIfInBounds_toArray, List.set_cons_zero, List.set_cons_succ]
  refine anyLate_take (i := 5) (v := .int .i64 0) rfl (by kernel_rfl) (by kernel_rfl) (by kernel_rfl) (fun _ _ _ h => h) rfl (by kernel_rfl) (.inl ⟨by kernel_rfl, fun w hSw => by (subst hSw; go_simp)⟩) rfl ?_
  simp only [Act.put, List.setIfInBounds_toArray, List.set_cons_zero, List.set_cons_succ]
  refine anyLate_takeW (i := 6) (v := .pointer (some ⟨b, 0, none⟩)) rfl (by kernel_rfl) (by kernel_rfl) (by kernel_rfl) (fun _ _ _ h => h) (.inl ⟨by kernel_rfl, fun w _ => by go_simp⟩) ?_
  simp only [Act.put, List.setIfInBounds_toArray, List.set_cons_zero, List.set_cons_succ]
  refine anyLate_takeW (i := 7) (v := .pointer (some ⟨b, 0, none⟩)) rfl (by kernel_rfl) (by kernel_rfl) (by kernel_rfl) (fun _ _ _ h => h) (.inl ⟨by kernel_rfl, fun w _ => by go_simp⟩) ?_
  simp only [Act.put, List.setIfInBounds_toArray, List.set_cons_zero, List.set_cons_succ]
  refine anyLate_takeW (i := 8) (v := .pointer (some ⟨b, 0, none⟩)) rfl (by kernel_rfl) (by kernel_rfl) (by kernel_rfl) (fun _ _ _ h => h) (.inl ⟨by kernel_rfl, fun w _ => by go_simp⟩) ?_
  simp only [Act.put, List.setIfInBounds_toArray, List.set_cons_zero, List.set_cons_succ]
  refine anyLate_takeW (i := 9) (v := .pointer (some ⟨b, 0, none⟩)) rfl (by kernel_rfl) (by kernel_rfl) (by kernel_rfl) (fun _ _ _ h => h) (.inl ⟨by kernel_rfl, fun w _ => by go_simp⟩) ?_
  simp only [Act.put, List.setIfInBounds_toArray, List.set_cons_zero, List.set_cons_succ]
  refine anyLate_takeW (i := 10) (v := .pointer (some ⟨b, 3, none⟩)) rfl (by kernel_rfl) (by kernel_rfl) (by kernel_rfl) (fun _ _ _ h => h) (.inl ⟨by kernel_rfl, fun w _ => by go_simp⟩) ?_
  simp only [Act.put, List.setIfInBounds_toArray, List.set_cons_zero, List.set_cons_succ]
  refine anyLate_takeW (i := 11) (v := .pointer (some ⟨b, 133, none⟩)) rfl (by kernel_rfl) (by kernel_rfl) (by kernel_rfl) (fun _ _ _ h => h) (.inl ⟨by kernel_rfl, fun w _ => by go_simp⟩) ?_
  simp only [Act.put, List.setIfInBounds_toArray, List.set_cons_zero, List.set_cons_succ]
  refine anyLate_take (i := 12) (v := .int .i64 0) rfl (by kernel_rfl) (by kernel_rfl) (by kernel_rfl) (fun _ _ _ h => h) rfl (by kernel_rfl) (.inl ⟨by kernel_rfl, fun w hSw => by (subst hSw; go_simp)⟩) rfl ?_
  simp only [Act.put, List.setIfInBounds_toArray, List.set_cons_zero, List.set_cons_succ]
  refine anyLate_takeW (i := 13) (v := .pointer (some ⟨c, 0, none⟩)) rfl (by kernel_rfl) (by kernel_rfl) (by kernel_rfl) (fun _ _ _ h => h) (.inl ⟨by kernel_rfl, fun w _ => by go_simp⟩) ?_
  simp only [Act.put, List.setIfInBounds_toArray, List.set_cons_zero, List.set_cons_succ]
  refine anyLate_ready (rs := [14]) (by kernel_rfl) (by simp) ?_
  refine AllLate.cons rfl (fun K' hK' => ?_) AllLate.nil
  go_simp
  refine hK'.out _ _ (fun h => by simp at h) ?_
  clear hK'
  have hbb : (W2.setCell ⟨c, 0, none⟩ (.pointer (some ⟨b, 0, none⟩))).drew.heap[b]? = W2.heap[b]? := Below.heap_setCell _ _ _ _ (fun e => hcb (Eq.symm e))
  have cb3 : (W2.setCell ⟨c, 0, none⟩ (.pointer (some ⟨b, 0, none⟩))).drew.cell? ⟨b, 133, none⟩ = some (.int .i64 0) := by
    rw [← cb]; simp only [World.cell?, hbb]
  have fb3 : (W2.setCell ⟨c, 0, none⟩ (.pointer (some ⟨b, 0, none⟩))).drew.frozen? ⟨b, 133, none⟩ = false := by
    rw [← fb]; simp only [World.frozen?, hbb]
  have HK3 : Hid (Kept (fun k => k = c) w (W2.setCell ⟨c, 0, none⟩ (.pointer (some ⟨b, 0, none⟩))).drew) := Kept.drew (Kept.setCell (HK2.out.mono (own' := fun k => k = c) (fun _ _ h => h.elim)) ⟨c, 0, none⟩ (fun _ => rfl) _)
  have Hc3 : Hid ((W2.setCell ⟨c, 0, none⟩ (.pointer (some ⟨b, 0, none⟩))).drew.heap[c]? = some (.cells #[.pointer (some ⟨b, 0, none⟩)] 47 (0, 0))) := heap_setCell_same W2 c 0 _ 47 _ Hc2.out
  have Hb3 : Hid ((W2.setCell ⟨c, 0, none⟩ (.pointer (some ⟨b, 0, none⟩))).drew.heap[b]? = some (.cells ((X b).setIfInBounds 134 (.int .i64 (0 : Nat))) 53 (0, 0))) := hbb.trans Hb2.out
  have Hkb3 : Hid ((W2.setCell ⟨c, 0, none⟩ (.pointer (some ⟨b, 0, none⟩))).drew.heap[w.heap.size]? = some (.cells (tk i).toArray 44 (0, 0))) := (Below.heap_setCell _ _ _ _ (fun e => by have e' : w.heap.size = c := e; omega)).trans Hkb2.out
  clear hbb cc cb fc fb HK2 Hc2 Hb2 Hkb2 Hk2
  generalize (W2.setCell ⟨c, 0, none⟩ (.pointer (some ⟨b, 0, none⟩))).drew = W3 at cb3 fb3 HK3 Hc3 Hb3 Hkb3 ⊢
  refine anyLate_takeW (i := 15) (v := .pointer (some ⟨b, 0, none⟩)) rfl (by kernel_rfl) (by kernel_rfl) (by kernel_rfl) (fun _ _ _ h => h) (.inl ⟨by kernel_rfl, fun w _ => by go_simp⟩) ?_
  simp only [Act.put, List.setIfInBounds_toArray, List.set_cons_zero, List.set_cons_succ]
  refine anyLate_takeW (i := 16) (v := .pointer (some ⟨b, 3, none⟩)) rfl (by kernel_rfl) (by kernel_rfl) (by kernel_rfl) (fun _ _ _ h => h) (.inl ⟨by kernel_rfl, fun w _ => by go_simp⟩) ?_
  simp only [Act.put, List.setIfInBounds_toArray, List.set_cons_zero, List.set_cons_succ]
  refine anyLate_takeW (i := 17) (v := .pointer (some ⟨b, 133, none⟩)) rfl (by kernel_rfl) (by kernel_rfl) (by kernel_rfl) (fun _ _ _ h => h) (.inl ⟨by kernel_rfl, fun w _ => by go_simp⟩) ?_
  simp only [Act.put, List.setIfInBounds_toArray, List.set_cons_zero, List.set_cons_succ]
  refine anyLate_ready (rs := [18]) (by kernel_rfl) (by simp) ?_
  refine AllLate.cons rfl (fun K' hK' => ?_) AllLate.nil
  go_simp
  refine hK'.out _ _ (fun h => by simp at h) ?_
  clear hK'
  refine anyLate_done (by kernel_rfl) ?_ _
  have hb4 : (W3.setCell ⟨b, 133, none⟩ (.int .i64 0)).heap[b]? = some (.cells ((X b).setIfInBounds 134 (.int .i64 (0 : Nat))) 53 (0, 0)) := by
    rw [heap_setCell_same W3 b 133 _ 53 _ Hb3.out, set_same (by rw [Array.getElem?_setIfInBounds, if_neg (by omega)]; exact HI.out.slot)]
  have HK4 : Hid (Kept (fun k => k = c) w (W3.setCell ⟨b, 133, none⟩ (.int .i64 0))) := by
    have hK := Kept.setCell (HK3.out.mono (own' := fun k => k = c ∨ k = b) (fun _ _ h => .inl h)) ⟨b, 133, none⟩ (fun _ => .inr rfl) (.int .i64 0)
    refine ⟨hK.os, hK.tape, hK.output, hK.size, fun k hk hn => ?_⟩
    by_cases e : k = b
    · subst e
      rw [hb4]
      have := HK3.out.block k hk hn
      rw [← this]; exact Hb3.out.symm
    · exact hK.block k hk (fun h => h.elim hn e)
  have hc4 : (W3.setCell ⟨b, 133, none⟩ (.int .i64 0)).heap[c]? = some (.cells #[.pointer (some ⟨b, 0, none⟩)] 47 (0, 0)) := (Below.heap_setCell _ _ _ _ (fun e => hcb e)).trans Hc3.out
  have Hkb4 : Hid ((W3.setCell ⟨b, 133, none⟩ (.int .i64 0)).heap[w.heap.size]? = some (.cells (tk i).toArray 44 (0, 0))) := (Below.heap_setCell _ _ _ _ (fun e => by have e' : w.heap.size = b := e; omega)).trans Hkb3.out
  clear cb3 fb3 HK3 Hc3 Hb3 Hkb3
  generalize W3.setCell ⟨b, 133, none⟩ (.int .i64 0) = W4 at hb4 HK4 hc4 Hkb4 ⊢
  have cc4 : W4.cell? ⟨c, 0, none⟩ = some (.pointer (some ⟨b, 0, none⟩)) := by rw [cell_of_row W4 c 0 _ 47 (0, 0) hc4]; rfl
  have fc4 : W4.frozen? ⟨c, 0, none⟩ = false := by simp [World.frozen?, hc4]
  have Hb4 : Hid _ := hb4
  clear hb4 hc4
  go_wp2
  have HK5 : Hid (Kept (fun k => k = c) w (W4.setCell ⟨c, 0, none⟩ (.pointer none))) := Kept.setCell HK4.out ⟨c, 0, none⟩ (fun _ => rfl) _
  have hkb5 : (W4.setCell ⟨c, 0, none⟩ (.pointer none)).heap[w.heap.size]? = some (.cells (tk i).toArray 44 (0, 0)) := (Below.heap_setCell _ _ _ _ (fun e => by have e' : w.heap.size = c := e; omega)).trans Hkb4.out
  clear cc4 fc4 HK4 Hb4 Hkb4
  generalize W4.setCell ⟨c, 0, none⟩ (.pointer none) = W5 at HK5 hkb5 ⊢
  -- the blocks apart
  obtain ⟨Nv, Dv, hmv, hsv, hhv⟩ := H.out.val
  obtain ⟨Nk, Dk, hmk, hak⟩ := H.out.byk
  have hsc : s ≠ c := blk_ne Hobj.out Hsl.out.1 (by decide)
  have hmvc : mv ≠ c := ownsMap_ne hmv Hsl.out.1
  have hmkc : mk ≠ c := ownsMap_ne hmk Hsl.out.1
  have hsv' : mv ≠ s := ownsMap_ne hmv Hobj.out
  have hsk' : mk ≠ s := ownsMap_ne hmk Hobj.out
  have hbv : mv ≠ b := by
    have := H.out.qu.it 0 (by omega)
    rw [← Hb.out] at this
    exact ownsMap_ne hmv this
  have hbk : mk ≠ b := by
    have := H.out.qu.it 0 (by omega)
    rw [← Hb.out] at this
    exact ownsMap_ne hmk this
  have hmm := H.out.mm
  have ho5 : W5.heap[s]? = some (stObj cp bys mv mk (.slice (some ⟨bk, 0, none⟩) (n + 1) cap) ch) := (HK5.out.block s hslt hsc).trans Hobj.out
  have c3 : W5.cell? ⟨s, 3, none⟩ = some (.map (some mk)) := st_cell ho5 3
  have lk : (loadCells ⟨w.heap.size, 0, none⟩ 65).run Yba.prog W5.drew = .ok (tk i).toArray W5.drew := by
    have := lcAt (w := W5.drew) (o := 0) (L := tk i) hkb5 (fun j hj => by simp)
    rwa [ht] at this
  have hmk5 : W5.drew.ownsMap Yba.prog 44 R2 mk Nk Dk := ownsMap_heap hmk (HK5.out.block mk (ownsMap_lt hmk) hmkc)
  obtain ⟨W6, hdel, hmk6, ht6⟩ := hmk5.drop keyed44 Yba.underlying34 (keyT (by omega : i < 65536)) 0
  have HK6 : Hid (Kept (fun k => k = c ∨ k = mk) w W6) := Kept.turned ((HK5.out.drew).mono (fun _ _ h => .inl h)) ht6 (fun _ => .inr rfl)
  have Hmk6 : Hid (W6.ownsMap Yba.prog 44 R2 mk Nk (Dk.del (kT i))) := hmk6
  have Hak : Hid _ := hak
  have Hmv : Hid (w.ownsMap Yba.prog 46 R1 mv Nv Dv) := hmv
  have Hhv : Hid _ := hhv
  have Hsv : Hid (Maps.size Dv = n + 1) := hsv
  clear hmk5 hmk6 ht6 hkb5 ho5 hmk hmv hak hhv hsv HK5
  refine region_late (S := fun w' => w' = W5.drew) (late := fun i => i == 5) (by kernel_rfl) ?_
  refine anyLate_takeW (i := 0) (v := .pointer (some ⟨s, 0, none⟩)) rfl (by kernel_rfl) (by kernel_rfl) (by kernel_rfl) (fun _ _ _ h => h) (.inl ⟨by kernel_rfl, fun w _ => by go_simp⟩) ?_
  simp only [Act.put, List.setIfInBounds_toArray, List.set_cons_zero, List.set_cons_succ]
  refine anyLate_takeW (i := 1) (v := .pointer (some ⟨s, 0, none⟩)) rfl (by kernel_rfl) (by kernel_rfl) (by kernel_rfl) (fun _ _ _ h => h) (.inl ⟨by kernel_rfl, fun w _ => by go_simp⟩) ?_
  simp only [Act.put, List.setIfInBounds_toArray, List.set_cons_zero, List.set_cons_succ]
  refine anyLate_takeW (i := 2) (v := .pointer (some ⟨s, 3, none⟩)) rfl (by kernel_rfl) (by kernel_rfl) (by kernel_rfl) (fun _ _ _ h => h) (.inl ⟨by kernel_rfl, fun w _ => by go_simp⟩) ?_
  simp only [Act.put, List.setIfInBounds_toArray, List.set_cons_zero, List.set_cons_succ]
  refine anyLate_take (i := 3) (v := .map (some mk)) rfl (by kernel_rfl) (by kernel_rfl) (by kernel_rfl) (fun _ _ _ h => h) rfl (by kernel_rfl) (.inl ⟨by kernel_rfl, fun w hSw => by (subst hSw; go_simp)⟩) rfl ?_
  simp only [Act.put, List.setIfInBounds_toArray, List.set_cons_zero, List.set_cons_succ]
  refine anyLate_take (i := 4) (v := .agg (tk i).toArray) rfl (by kernel_rfl) (by kernel_rfl) (by kernel_rfl) (fun _ _ _ h => h) rfl (by kernel_rfl) (.inl ⟨by kernel_rfl, fun w hSw => by (subst hSw; go_simp)⟩) rfl ?_
  simp only [Act.put, List.setIfInBounds_toArray, List.set_cons_zero, List.set_cons_succ]
  refine anyLate_ready (rs := [5]) (by kernel_rfl) (by simp) ?_
  refine AllLate.cons rfl (fun K' hK' => ?_) AllLate.nil
  go_simp
  refine hK'.out _ _ (fun h => by simp at h) ?_
  clear hK' c3 lk hdel
  refine anyLate_done (by kernel_rfl) ?_ _
  have ho6 : W6.heap[s]? = some (stObj cp bys mv mk (.slice (some ⟨bk, 0, none⟩) (n + 1) cap) ch) := (HK6.out.block s hslt (fun h => h.elim hsc (fun e => hsk' e.symm))).trans Hobj.out
  have c2 : W6.cell? ⟨s, 2, none⟩ = some (.map (some mv)) := st_cell ho6 2
  have hit := H.out.qu.it 0 (by omega)
  rw [← Hb.out] at hit
  have hb6 : W6.heap[b]? = some (.cells ((X b).setIfInBounds 134 (.int .i64 (0 : Nat))) 53 (0, 0)) := (HK6.out.block b hblt (fun h => h.elim (fun e => hcb e.symm) (fun e => hbk e.symm))).trans hit
  have lv : (loadCells ⟨b, 3, none⟩ 129).run Yba.prog W6.drew = .ok (vk i).toArray W6.drew := by
    have := lcAt (w := W6.drew) (o := 3) (L := vk i) hb6 (fun j hj => by
      rw [vk_len] at hj
      rw [Array.getElem?_setIfInBounds, if_neg (by omega)]; exact HI.out.key j hj)
    rwa [vk_len] at this
  have hmv6 : W6.drew.ownsMap Yba.prog 46 R1 mv Nv Dv := ownsMap_heap Hmv.out (HK6.out.block mv (ownsMap_lt Hmv.out) (fun h => h.elim hmvc hmm))
  obtain ⟨W7, hdel, hmv7, ht7⟩ := hmv6.drop keyed46 Yba.underlying33 (keyV (by omega : i < 65536)) 0
  have HK7 : Hid (Kept (fun k => k = c ∨ k = mk ∨ k = mv) w W7) := Kept.turned ((HK6.out.drew).mono (fun _ _ h => h.elim .inl (fun h => .inr (.inl h)))) ht7 (fun _ => .inr (.inr rfl))
  have Hmv7 : Hid (W7.ownsMap Yba.prog 46 R1 mv Nv (Dv.del (kV i))) := hmv7
  have Hmk7 : Hid (W7.ownsMap Yba.prog 44 R2 mk Nk (Dk.del (kT i))) := by
    obtain ⟨es, clock, es', clock', h1, e⟩ := ht7
    refine ownsMap_heap Hmk6.out ?_
    rw [e, Go.ChangeMaps.heap_setBlock_other h1 _ (fun e => hmm e.symm)]; rfl
  clear hmv6 hmv7 ht7 hb6 hit ho6
  go_wp2
  refine region_late (S := fun w' => w' = W6.drew) (late := fun i => i == 9) (by kernel_rfl) ?_
  refine anyLate_takeW (i := 0) (v := .pointer (some ⟨s, 0, none⟩)) rfl (by kernel_rfl) (by kernel_rfl) (by kernel_rfl) (fun _ _ _ h => h) (.inl ⟨by kernel_rfl, fun w _ => by go_simp⟩) ?_
  simp only [Act.put, List.setIfInBounds_toArray, List.set_cons_zero, List.set_cons_succ]
  refine anyLate_takeW (i := 1) (v := .pointer (some ⟨s, 0, none⟩)) rfl (by kernel_rfl) (by kernel_rfl) (by kernel_rfl) (fun _ _ _ h => h) (.inl ⟨by kernel_rfl, fun w _ => by go_simp⟩) ?_
  simp only [Act.put, List.setIfInBounds_toArray, List.set_cons_zero, List.set_cons_succ]
  refine anyLate_takeW (i := 2) (v := .pointer (some ⟨s, 2, none⟩)) rfl (by kernel_rfl) (by kernel_rfl) (by kernel_rfl) (fun _ _ _ h => h) (.inl ⟨by kernel_rfl, fun w _ => by go_simp⟩) ?_
  simp only [Act.put, List.setIfInBounds_toArray, List.set_cons_zero, List.set_cons_succ]
  refine anyLate_take (i := 3) (v := .map (some mv)) rfl (by kernel_rfl) (by kernel_rfl) (by kernel_rfl) (fun _ _ _ h => h) rfl (by kernel_rfl) (.inl ⟨by kernel_rfl, fun w hSw => by (subst hSw; go_simp)⟩) rfl ?_
  simp only [Act.put, List.setIfInBounds_toArray, List.set_cons_zero, List.set_cons_succ]
  refine anyLate_takeW (i := 4) (v := .pointer (some ⟨b, 0, none⟩)) rfl (by kernel_rfl) (by kernel_rfl) (by kernel_rfl) (fun _ _ _ h => h) (.inl ⟨by kernel_rfl, fun w _ => by go_simp⟩) ?_
  simp only [Act.put, List.setIfInBounds_toArray, List.set_cons_zero, List.set_cons_succ]
  refine anyLate_takeW (i := 5) (v := .pointer (some ⟨b, 0, none⟩)) rfl (by kernel_rfl) (by kernel_rfl) (by kernel_rfl) (fun _ _ _ h => h) (.inl ⟨by kernel_rfl, fun w _ => by go_simp⟩) ?_
  simp only [Act.put, List.setIfInBounds_toArray, List.set_cons_zero, List.set_cons_succ]
  refine anyLate_takeW (i := 6) (v := .pointer (some ⟨b, 3, none⟩)) rfl (by kernel_rfl) (by kernel_rfl) (by kernel_rfl) (fun _ _ _ h => h) (.inl ⟨by kernel_rfl, fun w _ => by go_simp⟩) ?_
  simp only [Act.put, List.setIfInBounds_toArray, List.set_cons_zero, List.set_cons_succ]
  refine anyLate_takeW (i := 7) (v := .pointer (some ⟨b, 3, none⟩)) rfl (by kernel_rfl) (by kernel_rfl) (by kernel_rfl) (fun _ _ _ h => h) (.inl ⟨by kernel_rfl, fun w _ => by go_simp⟩) ?_
  simp only [Act.put, List.setIfInBounds_toArray, List.set_cons_zero, List.set_cons_succ]
  refine anyLate_take (i := 8) (v := .agg (vk i).toArray) rfl (by kernel_rfl) (by kernel_rfl) (by kernel_rfl) (fun _ _ _ h => h) rfl (by kernel_rfl) (.inl ⟨by kernel_rfl, fun w hSw => by (subst hSw; go_simp)⟩) rfl ?_
  simp only [Act.put, List.setIfInBounds_toArray, List.set_cons_zero, List.set_cons_succ]
  refine anyLate_ready (rs := [9]) (by kernel_rfl) (by simp) ?_
  refine AllLate.cons rfl (fun K' hK' => ?_) AllLate.nil
  go_simp
  refine hK'.out _ _ (fun h => by simp at h) ?_
  clear hK' c2 lv hdel
  refine anyLate_done (by kernel_rfl) ?_ _
  have ho7 : W7.heap[s]? = some (stObj cp bys mv mk (.slice (some ⟨bk, 0, none⟩) (n + 1) cap) ch) := (HK7.out.block s hslt (fun h => h.elim hsc (fun h => h.elim (fun e => hsk' e.symm) (fun e => hsv' e.symm)))).trans Hobj.out
  have nC : ∀ k, k < n + 1 → f k ≠ c := fun k hk => blk_ne (H.out.qu.it k hk) Hsl.out.1 (by decide)
  have nK : ∀ k, k < n + 1 → mk ≠ f k := fun k hk => by
    obtain ⟨N, D, hm, _⟩ := H.out.byk
    exact ownsMap_ne hm (H.out.qu.it k hk)
  have nV : ∀ k, k < n + 1 → mv ≠ f k := fun k hk => ownsMap_ne Hmv.out (H.out.qu.it k hk)
  have hbkb : bk ≠ c ∧ mk ≠ bk ∧ mv ≠ bk ∧ s ≠ bk := by
    obtain ⟨C, hC, _⟩ := H.out.qu.blk (by omega)
    obtain ⟨N, D, hm, _⟩ := H.out.byk
    exact ⟨fun e => Hsl.out.2 e.symm, ownsMap_ne hm hC, ownsMap_ne Hmv.out hC, blk_ne Hobj.out hC (by decide)⟩
  have HQ7 : Hid (Qu 47 53 134 X key W7 bk (n + 1) f) := H.out.qu.move (fun _ => HK7.out.block bk (H.out.qu.bk_lt (by omega)) (fun h => h.elim hbkb.1 (fun h => h.elim (fun e => hbkb.2.1 e.symm) (fun e => hbkb.2.2.1 e.symm))))
    (fun k hk => HK7.out.block (f k) (H.out.qu.it_lt hk) (fun h => h.elim (nC k hk) (fun h => h.elim (fun e => nK k hk e.symm) (fun e => nV k hk e.symm))))
  have nS : ∀ k, k < n + 1 → f k ≠ s := fun k hk => blk_ne (H.out.qu.it k hk) Hobj.out (by decide)
  have HR : Hid _ := qremS s 4 bk n cap X key f W7 HQ7.out (st_cell ho7 4) H.out.cap.2.1 (by have := H.out.cap.2.2; omega) H.out.cap.1 hbkb.2.2.2 nS H.out.heap (st_frozen ho7 4)
  rw [← Hb.out] at HR
  have Ho7 : Hid _ := ho7
  have HnC : Hid _ := nC
  have HnS : Hid _ := nS
  have HnK : Hid _ := nK
  have HnV : Hid _ := nV
  have Hbkb : Hid _ := hbkb
  clear ho7 nC nS nK nV hbkb
  go_wp2_with (fail)
  refine Calls.mono HR.out ?_
  rintro e W8 ⟨f', rfl, hR⟩
  have ho8 : W8.heap[s]? = some (stObj cp bys mv mk (.slice (some ⟨bk, 0, none⟩) n cap) ch) := hR.cell _ 38 Ho7.out
  have c1 : W8.cell? ⟨s, 1, none⟩ = some (.int .i64 bys) := st_cell ho8 1
  have f1 : W8.frozen? ⟨s, 1, none⟩ = false := st_frozen ho8 1
  obtain ⟨va, vc, hva⟩ := HI.out.val
  have hg := hR.gone
  rw [← Hb.out] at hg
  have cv : W8.cell? ⟨b, 132, none⟩ = some (.slice va (sz b) vc) := by
    rw [cell_of_row W8 b 132 _ 53 (0, 0) hg, Array.getElem?_setIfInBounds, if_neg (by omega)]; exact hva
  have Hg : Hid _ := hg
  have HR8 : Hid (RmS X key W7 s 4 bk n cap f W8 f') := hR
  have Ho8 : Hid _ := ho8
  obtain ⟨q, hq⟩ : ∃ q, q = sz b := ⟨_, rfl⟩
  rw [← hq] at cv hs
  have Hq : Hid (q = sz b) := hq
  clear hR ho8 hg hva HR hq
  go_wp2
  refine region_late (S := fun w' => w' = W8.drew) (late := fun i => i == 13) (by kernel_rfl) ?_
  refine anyLate_takeW (i := 0) (v := .pointer (some ⟨s, 0, none⟩)) rfl (by kernel_rfl) (by kernel_rfl) (by kernel_rfl) (fun _ _ _ h => h) (.inl ⟨by kernel_rfl, fun w _ => by go_simp⟩) ?_
  simp only [Act.put, List.setIfInBounds_toArray, List.set_cons_zero, List.set_cons_succ]
  refine anyLate_takeW (i := 1) (v := .pointer (some ⟨s, 0, none⟩)) rfl (by kernel_rfl) (by kernel_rfl) (by kernel_rfl) (fun _ _ _ h => h) (.inl ⟨by kernel_rfl, fun w _ => by go_simp⟩) ?_
  simp only [Act.put, List.setIfInBounds_toArray, List.set_cons_zero, List.set_cons_succ]
  refine anyLate_takeW (i := 2) (v := .pointer (some ⟨s, 1, none⟩)) rfl (by kernel_rfl) (by kernel_rfl) (by kernel_rfl) (fun _ _ _ h => h) (.inl ⟨by kernel_rfl, fun w _ => by go_simp⟩) ?_
  simp only [Act.put, List.setIfInBounds_toArray, List.set_cons_zero, List.set_cons_succ]
  refine anyLate_take (i := 3) (v := .int .i64 bys) rfl (by kernel_rfl) (by kernel_rfl) (by kernel_rfl) (fun _ _ _ h => h) rfl (by kernel_rfl) (.inl ⟨by kernel_rfl, fun w hSw => by (subst hSw; go_simp)⟩) rfl ?_
  simp only [Act.put, List.setIfInBounds_toArray, List.set_cons_zero, List.set_cons_succ]
  refine anyLate_takeW (i := 4) (v := .pointer (some ⟨b, 0, none⟩)) rfl (by kernel_rfl) (by kernel_rfl) (by kernel_rfl) (fun _ _ _ h => h) (.inl ⟨by kernel_rfl, fun w _ => by go_simp⟩) ?_
  simp only [Act.put, List.setIfInBounds_toArray, List.set_cons_zero, List.set_cons_succ]
  refine anyLate_takeW (i := 5) (v := .pointer (some ⟨b, 0, none⟩)) rfl (by kernel_rfl) (by kernel_rfl) (by kernel_rfl) (fun _ _ _ h => h) (.inl ⟨by kernel_rfl, fun w _ => by go_simp⟩) ?_
  simp only [Act.put, List.setIfInBounds_toArray, List.set_cons_zero, List.set_cons_succ]
  refine anyLate_takeW (i := 6) (v := .pointer (some ⟨b, 3, none⟩)) rfl (by kernel_rfl) (by kernel_rfl) (by kernel_rfl) (fun _ _ _ h => h) (.inl ⟨by kernel_rfl, fun w _ => by go_simp⟩) ?_
  simp only [Act.put, List.setIfInBounds_toArray, List.set_cons_zero, List.set_cons_succ]
  refine anyLate_takeW (i := 7) (v := .pointer (some ⟨b, 132, none⟩)) rfl (by kernel_rfl) (by kernel_rfl) (by kernel_rfl) (fun _ _ _ h => h) (.inl ⟨by kernel_rfl, fun w _ => by go_simp⟩) ?_
  simp only [Act.put, List.setIfInBounds_toArray, List.set_cons_zero, List.set_cons_succ]
  refine anyLate_take (i := 8) (v := .slice va q vc) rfl (by kernel_rfl) (by kernel_rfl) (by kernel_rfl) (fun _ _ _ h => h) rfl (by kernel_rfl) (.inl ⟨by kernel_rfl, fun w hSw => by (subst hSw; go_simp)⟩) rfl ?_
  simp only [Act.put, List.setIfInBounds_toArray, List.set_cons_zero, List.set_cons_succ]
  refine anyLate_takeW (i := 9) (v := .int .i64 q) rfl (by kernel_rfl) (by kernel_rfl) (by kernel_rfl) (fun _ _ _ h => h) (.inl ⟨by kernel_rfl, fun w _ => by go_simp⟩) ?_
  simp only [Act.put, List.setIfInBounds_toArray, List.set_cons_zero, List.set_cons_succ]
  refine anyLate_takeW (i := 10) (v := .int .i64 (bys - q)) rfl (by kernel_rfl) (by kernel_rfl) (by kernel_rfl) (fun _ _ _ h => h) (.inl ⟨by kernel_rfl, fun w _ => by (go_simp; exact wrap_sub y0 y1 hs)⟩) ?_
  simp only [Act.put, List.setIfInBounds_toArray, List.set_cons_zero, List.set_cons_succ]
  refine anyLate_takeW (i := 11) (v := .pointer (some ⟨s, 0, none⟩)) rfl (by kernel_rfl) (by kernel_rfl) (by kernel_rfl) (fun _ _ _ h => h) (.inl ⟨by kernel_rfl, fun w _ => by go_simp⟩) ?_
  simp only [Act.put, List.setIfInBounds_toArray, List.set_cons_zero, List.set_cons_succ]
  refine anyLate_takeW (i := 12) (v := .pointer (some ⟨s, 1, none⟩)) rfl (by kernel_rfl) (by kernel_rfl) (by kernel_rfl) (fun _ _ _ h => h) (.inl ⟨by kernel_rfl, fun w _ => by go_simp⟩) ?_
  simp only [Act.put, List.setIfInBounds_toArray, List.set_cons_zero, List.set_cons_succ]
  refine anyLate_ready (rs := [13]) (by kernel_rfl) (by simp) ?_
  refine AllLate.cons rfl (fun K' hK' => ?_) AllLate.nil
  go_simp
  refine hK'.out _ _ (fun h => by simp at h) ?_
  clear hK' c1 f1 cv
  refine anyLate_done (by kernel_rfl) ?_ _
  have ho9 : (W8.setCell ⟨s, 1, none⟩ (.int .i64 (bys - q))).drew.heap[s]? = some (stObj cp (bys - q) mv mk (.slice (some ⟨bk, 0, none⟩) n cap) ch) := by
    show (W8.setCell ⟨s, 1, none⟩ (.int .i64 (bys - q))).heap[s]? = _
    rw [heap_setCell_same W8 s 1 _ 38 _ Ho8.out]; rfl
  have HK9 : Hid (Kept (fun k => k = s) W8 (W8.setCell ⟨s, 1, none⟩ (.int .i64 (bys - q))).drew) := Kept.drew (Kept.setCell (Kept.refl (fun k => k = s) W8) ⟨s, 1, none⟩ (fun _ => rfl) _)
  generalize (W8.setCell ⟨s, 1, none⟩ (.int .i64 (bys - q))).drew = W9 at ho9 HK9 ⊢
  have c5 : W9.cell? ⟨s, 5, none⟩ = some (.int .u64 ch) := st_cell ho9 5
  have f5 : W9.frozen? ⟨s, 5, none⟩ = false := st_frozen ho9 5
  have Ho9 : Hid _ := ho9
  clear ho9
  go_wp2
  go_end0
  have ho' : (W9.setCell ⟨s, 5, none⟩ (.int .u64 (ch + 1))).heap[s]? = some (stObj cp (bys - q) mv mk (.slice (some ⟨bk, 0, none⟩) n cap) (ch + 1)) := by
    rw [heap_setCell_same W9 s 5 _ 38 _ Ho9.out]; rfl
  have hKs : Kept (fun k => k = s) W8 (W9.setCell ⟨s, 5, none⟩ (.int .u64 (ch + 1))) := Kept.setCell HK9.out ⟨s, 5, none⟩ (fun _ => rfl) _
  generalize W9.setCell ⟨s, 5, none⟩ (.int .u64 (ch + 1)) = W' at ho' hKs ⊢
  have R := HR8.out
  have hK7' : Kept (fun k => k = s ∨ k = bk ∨ ∃ i, i < n + 1 ∧ k = f i) W7 W' := (R.kept.mono (fun k _ h => h.elim (fun e => .inr (.inl e)) (fun h => h.elim .inl (fun h => .inr (.inr h))))).trans hKs (fun k _ e => .inl e)
  have hmem := R.mem
  have hfs : ∀ k, k < n → f' k ≠ s := fun k hk => by
    obtain ⟨k', hk', e⟩ := hmem k hk
    rw [e]; exact HnS.out k' hk'
  have hb8 : ∀ k, k < n → f' k ≠ b := fun k hk => by rw [Hb.out]; exact R.ne k hk
  have hsize : mv < W7.heap.size ∧ mk < W7.heap.size := ⟨ownsMap_lt Hmv7.out, ownsMap_lt Hmk7.out⟩
  have hmv' : W'.ownsMap Yba.prog 46 R1 mv Nv (Dv.del (kV i)) := ownsMap_heap Hmv7.out (hK7'.block mv hsize.1 (fun h => h.elim hsv' (fun h => h.elim Hbkb.out.2.2.1 (fun ⟨i, hi, e⟩ => HnV.out i hi e))))
  have hmk' : W'.ownsMap Yba.prog 44 R2 mk Nk (Dk.del (kT i)) := ownsMap_heap Hmk7.out (hK7'.block mk hsize.2 (fun h => h.elim hsk' (fun h => h.elim Hbkb.out.2.1 (fun ⟨i, hi, e⟩ => HnK.out i hi e))))
  have hixn : ∀ k, k < n → ix (f' k) ≠ i := fun k hk e => by
    obtain ⟨k', hk', e'⟩ := hmem k hk
    rw [e', Hi.out, Hb.out] at e
    have := H.out.ixi k' 0 hk' (by omega) e
    subst this
    exact hb8 k hk (e'.trans Hb.out.symm)
  have hixl : ∀ k, k < n → ix (f' k) < 1024 := fun k hk => by
    obtain ⟨k', hk', e⟩ := hmem k hk
    rw [e]; exact (H.out.item k' hk').2.1
  refine ⟨rfl, f', ⟨⟨_, by rw [← Hq.out]; exact ho', fun _ => rfl⟩, ?_, R.heap, fun k hk => ?_, fun a b' ha hb' e => ?_, ⟨Nv, _, hmv', ?_, fun k hk => ?_⟩, ⟨Nk, _, hmk', fun k hk z => ?_⟩, fun k hk => ?_, fun a b' ha hb' e => ?_, hmm, ?_⟩, ?_, hmem, ?_⟩
  · exact R.qu.move (fun hn0 => hKs.block bk (R.qu.bk_lt hn0) (fun e => Hbkb.out.2.2.2 e.symm)) (fun k hk => hKs.block (f' k) (R.qu.it_lt hk) (hfs k hk))
  · obtain ⟨k', hk', e⟩ := hmem k hk
    rw [e]; exact H.out.item k' hk'
  · obtain ⟨a', ha', ea⟩ := hmem a ha
    obtain ⟨b1, hb1, eb⟩ := hmem b' hb'
    rw [ea, eb] at e
    have := H.out.ixi a' b1 ha' hb1 e
    subst this
    exact R.qu.inj a b' ha hb' (ea.trans eb.symm)
  · have e1 := size_del (k := kV i) (Hmv.out.tidy keyed46)
    have h0 := Hhv.out 0 (by omega)
    rw [← Hb.out, ← Hi.out] at h0
    rw [h0, Hsv.out] at e1
    simp at e1
    omega
  · have hk1 := hixl k hk
    rw [has_del_other (fun e => hixn k hk (kV_inj (by omega) (by omega) e))]
    obtain ⟨k', hk', e⟩ := hmem k hk
    rw [e]; exact Hhv.out k' hk'
  · have hk1 := hixl k hk
    rw [atKey_del_other (fun e => hixn k hk (kT_inj (by omega) (by omega) e))]
    obtain ⟨k', hk', e⟩ := hmem k hk
    rw [e]; exact Hak.out k' hk' z
  · obtain ⟨k', hk', e⟩ := hmem k hk
    have h1 := H.out.sls k' hk'
    have hcne : sl (f k') ≠ c := fun e1 => by
      rw [Hc.out, Hb.out] at e1
      have := H.out.sli k' 0 hk' (by omega) e1
      subst this
      exact hb8 k hk (e.trans Hb.out.symm)
    rw [e]
    refine ⟨?_, h1.2⟩
    have hlt := lt_of_heap h1.1
    have g1 : W7.heap[sl (f k')]? = w.heap[sl (f k')]? := HK7.out.block _ hlt (fun h => h.elim hcne (fun h => h.elim (fun e => by
      obtain ⟨N, D, hm, _⟩ := H.out.byk
      exact ownsMap_ne hm h1.1 e.symm) (fun e => ownsMap_ne Hmv.out h1.1 e.symm)))
    have g2 : W'.heap[sl (f k')]? = W7.heap[sl (f k')]? := hK7'.block _ (Nat.lt_of_lt_of_le hlt HK7.out.size) (fun h => h.elim (blk_ne h1.1 Hobj.out (by decide)) (fun h => h.elim h1.2 (fun ⟨j, hj, e⟩ => blk_ne h1.1 (H.out.qu.it j hj) (by decide) e)))
    rw [g2, g1]; exact h1.1
  · obtain ⟨a', ha', ea⟩ := hmem a ha
    obtain ⟨b1, hb1, eb⟩ := hmem b' hb'
    rw [ea, eb] at e
    have := H.out.sli a' b1 ha' hb1 e
    subst this
    exact R.qu.inj a b' ha hb' (ea.trans eb.symm)
  · have := H.out.cap
    omega
  · intro g; rw [Hb.out]; exact R.sum g
  · refine (HK7.out.mono (fun k _ h => ?_)).trans hK7' (fun k _ h => ?_)
    · rcases h with h | h | h
      · exact .inr (.inr (.inr (.inr ⟨0, by omega, .inr (by rw [h, Hc.out, Hb.out])⟩)))
      · exact .inr (.inr (.inr (.inl h)))
      · exact .inr (.inr (.inl h))
    · rcases h with h | h | ⟨j, hj, h⟩
      · exact .inl h
      · exact .inr (.inl ⟨by omega, h⟩)
      · exact .inr (.inr (.inr (.inr ⟨j, hj, .inl h⟩)))
end Go.Proofs.Ybulkamjs
