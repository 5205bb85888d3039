/- What the law's first loop makes. -/
import Derived.Test.YbulkamjsBldQ
namespace Go.Proofs.Ybulkamjs
open Go.RowKit Go.Maps Go.WideMaps
set_option linter.unusedSimpArgs false
set_option linter.unusedVariables false

/-- The sum of the first j lengths; of those that are later than t. -/
def sumZ (szf : Nat → Nat) : Nat → Nat
  | 0 => 0
  | j + 1 => sumZ szf j + szf j
def bytZ (zs : List Int) (szf : Nat → Nat) (t : Nat) : Nat → Nat
  | 0 => 0
  | j + 1 => bytZ zs szf t j + if (t : Int) < zs.getD j 0 then szf j else 0
theorem sumZ_le {szf : Nat → Nat} (h : ∀ k, szf k < 16) : ∀ j, sumZ szf j ≤ 16 * j
  | 0 => Nat.le_refl _
  | j + 1 => by have := sumZ_le h j; have := h j; rw [sumZ]; omega
theorem bytZ_le {zs : List Int} {szf : Nat → Nat} {t : Nat} (h : ∀ k, szf k < 16) : ∀ j, bytZ zs szf t j ≤ 16 * j
  | 0 => Nat.le_refl _
  | j + 1 => by have := bytZ_le (zs := zs) (t := t) h j; have := h j; rw [bytZ]; split <;> omega
def szOf (ln : Nat) (yf : Nat → Nat) (i : Nat) : Nat := if i < ln then yf i % 16 else 0
theorem szOf_lt (ln : Nat) (yf : Nat → Nat) (i : Nat) : szOf ln yf i < 16 := by
  unfold szOf; split <;> omega
def ixA (A : Array Value) : Nat := match (A[134]? : Option Value) with
  | some (Value.int _ z) => z.toNat
  | _ => 0
theorem ixA_at {A : Array Value} {k : Nat} (h : A[134]? = some (.int .i64 (k : Nat))) : ixA A = k := by simp [ixA, h]
set_option maxRecDepth 20000 in
theorem kV_lit {j : Nat} (h : j < 65536) : WideAt.IsKeyLit (kV j) := keyed46.key (keyV (i := j) h)
set_option maxRecDepth 20000 in
theorem kT_lit {j : Nat} (h : j < 65536) : WideAt.IsKeyLit (kT j) := keyed44.key (keyT (i := j) h)
/-- What an item of the store is. -/
structure ItS (A : Array Value) (k d z : Nat) : Prop where
  it : ItemS A k z
  a0 : A[0]? = some (.int .u64 (d : Nat))
  a1 : A[1]? = some (.int .i64 0)
  a2 : A[2]? = some (.pointer none)
  ix : A[134]? = some (.int .i64 (k : Nat))
/-- What the loop over the values has made. -/
structure BldS (w0 : World) (s mv mk : Nat) (zs : List Int) (szf : Nat → Nat) (wr : World) (j : Nat) (its : List Rec) (q : Value) : Prop where
  len : its.length = j
  obj : wr.heap[s]? = some (stObj 1073741824 (sumZ szf j : Nat) mv mk q 0)
  row : wr.ownsRow w0.heap.size 47 1 q its.length (its.map fun r => .pointer (some ⟨r.b, 0, none⟩))
  nil : j = 0 → q = .slice none 0 0
  it : ∀ (k : Nat) (r : Rec), its[k]? = some r → wr.heap[r.b]? = some (.cells r.A 53 (0, 0)) ∧ zs[k]? = some (r.d : Int) ∧ w0.heap.size ≤ r.b ∧ ItS r.A k r.d r.sz ∧ r.sz = szf k
  sl : ∀ (k : Nat) (r : Rec), its[k]? = some r → wr.heap[r.sl]? = some (.cells #[.pointer (some ⟨r.b, 0, none⟩)] 47 (0, 0)) ∧ q.ownBlock ≠ some r.sl ∧ w0.heap.size ≤ r.sl
  inj : RInj its
  sinj : ∀ (i j : Nat) (r r' : Rec), its[i]? = some r → its[j]? = some r' → r.sl = r'.sl → i = j
  val : ∃ N D, wr.ownsMap Yba.prog 46 R1 mv N D ∧ N ≤ j ∧ Maps.size D = j ∧ (∀ k, k < j → Maps.has D (kV k) = true) ∧ ∀ k, j ≤ k → k < 1024 → Maps.has D (kV k) = false
  byk : ∃ N D, wr.ownsMap Yba.prog 44 R2 mk N D ∧ N ≤ j ∧ ∀ (k : Nat) (r : Rec), its[k]? = some r → ∀ z, D.atKey (kT k) z = .lit (.int .u64 (r.sl : Nat))
  below : Below w0.heap.size w0 wr

attribute [local irreducible] kV kT
set_option maxRecDepth 20000 in
theorem BldS.step {w0 wr W3 W4 W5 W6 W7 W' : World} {s mv mk j d ib sb N N' : Nat} {zs : List Int} {szf : Nat → Nat} {its : List Rec} {q q' : Value} {A : Array Value} {D D' : DataW Unit} (h : BldS w0 s mv mk zs szf wr j its q) (hj : j < 1024) (hz : zs[j]? = some (d : Int))
    (hmv0 : w0.heap.size ≤ mv) (hmk0 : w0.heap.size ≤ mk) (hs0 : w0.heap.size ≤ s) (hmm : mv ≠ mk) (hB3 : Below wr.heap.size wr W3) (hs3 : wr.heap.size ≤ ib) (hib : W3.heap[ib]? = some (.cells A 53 (0, 0))) (hA : ItS A j d (szf j))
    (hK4 : Kept (fun k => k = mv) W3 W4) (hmv4 : W4.ownsMap Yba.prog 46 R1 mv (N + 1) (D.put (kV j) .nil))
    (hD : N ≤ j ∧ Maps.size D = j ∧ (∀ k, k < j → Maps.has D (kV k) = true) ∧ (∀ k, j ≤ k → k < 1024 → Maps.has D (kV k) = false) ∧ IsMap D ∧ Tidy D)
    (hB5 : Below W4.heap.size W4 W5) (hs5 : W4.heap.size ≤ sb) (hsb : W5.heap[sb]? = some (.cells #[.pointer (some ⟨ib, 0, none⟩)] 47 (0, 0)))
    (hK6 : Kept (fun k => k = mk) W5 W6) (hmk6 : W6.ownsMap Yba.prog 44 R2 mk (N' + 1) (D'.put (kT j) (.lit (.int .u64 (sb : Nat)))))
    (hD' : N' ≤ j ∧ (∀ (k : Nat) (r : Rec), its[k]? = some r → ∀ z, D'.atKey (kT k) z = .lit (.int .u64 (r.sl : Nat))) ∧ IsMap D')
    (hK7 : Kept (fun k => q.ownBlock = some k) W6 W7) (hrow7 : W7.ownsRow w0.heap.size 47 1 q' (its.length + 1) ((its.map fun r => .pointer (some ⟨r.b, 0, none⟩)) ++ [.pointer (some ⟨ib, 0, none⟩)])) (hqsb : q'.ownBlock ≠ some sb)
    (hW' : W' = (W7.setCell ⟨s, 4, none⟩ q').setCell ⟨s, 1, none⟩ (.int .i64 (sumZ szf (j + 1) : Nat))) : BldS w0 s mv mk zs szf W' (j + 1) (its ++ [⟨ib, sb, d, szf j, A⟩]) q' := by
  obtain ⟨hN, hsz, hhas, hnot, hmap, htidy⟩ := hD
  obtain ⟨hN', hat, hmap'⟩ := hD'
  obtain ⟨N0, D0, hmv, _⟩ := h.val
  obtain ⟨N1, D1, hmk, _⟩ := h.byk
  have hilen := h.len
  have hsw : s < wr.heap.size := lt_of_heap h.obj
  have hvl := ownsMap_lt hmv
  have hkl := ownsMap_lt hmk
  have hz3 := hB3.size
  have hz4 := hK4.size
  have hz5 := hB5.size
  have hz6 := hK6.size
  have hz7 := hK7.size
  have vs : mv ≠ s := ownsMap_ne hmv h.obj
  have ks : mk ≠ s := ownsMap_ne hmk h.obj
  have qb : ∀ g, q.ownBlock = some g → w0.heap.size ≤ g ∧ ∃ cur, wr.heap[g]? = some (.cells cur 47 (0, 0)) := fun g hg => ownsRow_block h.row hg
  have ql : q.ownBlock ≠ some s := fun e => blk_ne (qb s e).2.choose_spec h.obj (by decide) rfl
  have qv : q.ownBlock ≠ some mv := fun e => ownsMap_ne hmv (qb mv e).2.choose_spec rfl
  have qk : q.ownBlock ≠ some mk := fun e => ownsMap_ne hmk (qb mk e).2.choose_spec rfl
  -- from each world on to W7
  have f6 : ∀ k, k < W5.heap.size → k ≠ mk → q.ownBlock ≠ some k → W7.heap[k]? = W5.heap[k]? := fun k hk h1 h2 => by rw [hK7.block k (by omega) h2, hK6.block k hk h1]
  have f4 : ∀ k, k < W4.heap.size → k ≠ mk → q.ownBlock ≠ some k → W7.heap[k]? = W4.heap[k]? := fun k hk h1 h2 => by rw [f6 k (by omega) h1 h2, hB5.block k hk]
  have f3 : ∀ k, k < W3.heap.size → k ≠ mk → q.ownBlock ≠ some k → k ≠ mv → W7.heap[k]? = W3.heap[k]? := fun k hk h1 h2 h3 => by rw [f4 k (by omega) h1 h2, hK4.block k hk h3]
  have f0 : ∀ k, k < wr.heap.size → k ≠ mk → q.ownBlock ≠ some k → k ≠ mv → W7.heap[k]? = wr.heap[k]? := fun k hk h1 h2 h3 => by rw [f3 k (by omega) h1 h2 h3, hB3.block k hk]
  have e7 : ∀ k, k ≠ s → W'.heap[k]? = W7.heap[k]? := fun k h1 => by
    rw [hW', Below.heap_setCell _ _ _ _ (fun e => h1 e), Below.heap_setCell _ _ _ _ (fun e => h1 e)]
  have ho7 : W7.heap[s]? = some (stObj 1073741824 (sumZ szf j : Nat) mv mk q 0) := (f0 s hsw (fun e => ks e.symm) ql (fun e => vs e.symm)).trans h.obj
  have hmv7 : W7.ownsMap Yba.prog 46 R1 mv (N + 1) (D.put (kV j) .nil) := ownsMap_heap hmv4 (f4 mv (ownsMap_lt hmv4) hmm qv)
  have hmk7 : W7.ownsMap Yba.prog 44 R2 mk (N' + 1) (D'.put (kT j) (.lit (.int .u64 (sb : Nat)))) := ownsMap_heap hmk6 (hK7.block mk (ownsMap_lt hmk6) qk)
  have q'b : ∀ g, q'.ownBlock = some g → w0.heap.size ≤ g ∧ ∃ cur, W7.heap[g]? = some (.cells cur 47 (0, 0)) := fun g hg => ownsRow_block hrow7 hg
  have itb : ∀ (k : Nat) (r : Rec), its[k]? = some r → W'.heap[r.b]? = some (.cells r.A 53 (0, 0)) ∧ r.b < wr.heap.size := fun k r hr => by
    have h1 := (h.it k r hr).1
    refine ⟨?_, lt_of_heap h1⟩
    rw [e7 r.b (fun e => blk_ne h1 h.obj (by decide) e), f0 r.b (lt_of_heap h1) (fun e => ownsMap_ne hmk h1 e.symm) (fun e => blk_ne (qb _ e).2.choose_spec h1 (by decide) rfl) (fun e => ownsMap_ne hmv h1 e.symm)]
    exact h1
  have slb : ∀ (k : Nat) (r : Rec), its[k]? = some r → W7.heap[r.sl]? = some (.cells #[.pointer (some ⟨r.b, 0, none⟩)] 47 (0, 0)) ∧ r.sl < wr.heap.size ∧ r.sl ≠ s := fun k r hr => by
    obtain ⟨h1, h2, h3⟩ := h.sl k r hr
    refine ⟨?_, lt_of_heap h1, fun e => blk_ne h1 h.obj (by decide) e⟩
    rw [f0 r.sl (lt_of_heap h1) (fun e => ownsMap_ne hmk h1 e.symm) h2 (fun e => ownsMap_ne hmv h1 e.symm)]
    exact h1
  have hsbs : sb ≠ s := by omega
  have hsb7 : q.ownBlock ≠ some sb := fun e => by have := lt_of_heap (qb _ e).2.choose_spec; omega
  have hslt := lt_of_heap hsb
  have hib3 := lt_of_heap hib
  refine ⟨by simp [hilen], ?_, ?_, fun h0 => by omega, ?_, ?_, ?_, ?_, ?_, ?_, ?_⟩
  · rw [hW']
    have h1 := heap_setCell_same W7 s 4 _ 38 q' ho7
    have h2 := heap_setCell_same (W7.setCell ⟨s, 4, none⟩ q') s 1 _ 38 (.int .i64 (sumZ szf (j + 1) : Nat)) h1
    exact h2
  · have hr : W'.ownsRow w0.heap.size 47 1 q' (its.length + 1) ((its.map fun r => .pointer (some ⟨r.b, 0, none⟩)) ++ [.pointer (some ⟨ib, 0, none⟩)]) := ownsRow_move hrow7 (fun g hg => by
      obtain ⟨_, cur, hc⟩ := q'b g hg
      exact e7 g (fun e => blk_ne hc ho7 (by decide) e))
    have e1 : (its ++ [(⟨ib, sb, d, szf j, A⟩ : Rec)]).length = its.length + 1 := by simp
    rw [e1, List.map_append]; exact hr
  · intro k r hr
    rcases snoc_get hr with ⟨hk, hr'⟩ | ⟨hk, rfl⟩
    · obtain ⟨_, h2⟩ := h.it k r hr'
      exact ⟨(itb k r hr').1, h2⟩
    · rw [hilen] at hk; subst hk
      refine ⟨?_, hz, ?_, hA, rfl⟩
      · show W'.heap[ib]? = _
        rw [e7 ib (by omega), f3 ib hib3 (by omega) (fun e => by have := lt_of_heap (qb _ e).2.choose_spec; omega) (by omega)]
        exact hib
      · show w0.heap.size ≤ ib
        have := h.below.size; omega
  · intro k r hr
    rcases snoc_get hr with ⟨hk, hr'⟩ | ⟨hk, rfl⟩
    · obtain ⟨h1, h2, h3⟩ := slb k r hr'
      refine ⟨(e7 _ h3).trans h1, fun e => ?_, (h.sl k r hr').2.2⟩
      obtain ⟨hl, ⟨hn, _⟩ | ⟨g, cap, cur, rfl, hb, hg, hc1, hc2, hc3, hc4⟩⟩ := hrow7
      · rw [hn] at e; cases e
      · have e' : g = r.sl := by simpa [Value.ownBlock] using e
        subst e'
        rw [h1] at hg
        injection hg with hg
        injection hg with hg
        rw [← hg] at hc3
        simp at hc3
        omega
    · refine ⟨?_, hqsb, ?_⟩
      · show W'.heap[sb]? = _
        rw [e7 sb hsbs, f6 sb hslt (by omega) hsb7]; exact hsb
      · show w0.heap.size ≤ sb
        have := h.below.size; omega
  · refine h.inj.snoc (fun k r hr e => ?_)
    have h1 := (itb k r hr).2
    have e' : r.b = ib := e
    omega
  · intro i i' r r' hr hr' e
    rcases snoc_get hr with ⟨hk, hr1⟩ | ⟨hk, rfl⟩ <;> rcases snoc_get hr' with ⟨hk', hr1'⟩ | ⟨hk', rfl⟩
    · exact h.sinj i i' r r' hr1 hr1' e
    · have h1 := (slb i r hr1).2.1
      have e' : r.sl = sb := e
      omega
    · have h1 := (slb i' r' hr1').2.1
      have e' : sb = r'.sl := e
      omega
    · omega
  · refine ⟨N + 1, D.put (kV j) .nil, ownsMap_heap hmv7 (e7 mv vs), by omega, ?_, fun k hk => ?_, fun k hk hk2 => ?_⟩
    · rw [size_put htidy, hnot j (Nat.le_refl _) hj, hsz]; simp
    · by_cases e : k = j
      · subst e
        exact has_put_same hmap (kV_lit (by omega)) _
      · rw [has_put_other (fun e' => e (kV_inj (by omega) (by omega) e'))]
        exact hhas k (by omega)
    · rw [has_put_other (fun e' => by have := kV_inj (by omega) (by omega) e'; omega)]
      exact hnot k (by omega) hk2
  · refine ⟨N' + 1, D'.put (kT j) (.lit (.int .u64 (sb : Nat))), ownsMap_heap hmk7 (e7 mk ks), by omega, fun k r hr z => ?_⟩
    rcases snoc_get hr with ⟨hk, hr'⟩ | ⟨hk, rfl⟩
    · rw [atKey_put_other (fun e' => by have := kT_inj (by omega) (by omega) e'; omega)]
      exact hat k r hr' z
    · rw [hilen] at hk; subst hk
      exact atKey_put_same hmap' (kT_lit (by omega)) _ _
  · have hos : W'.os = wr.os ∧ W'.tape = wr.tape ∧ W'.output = wr.output := by
      rw [hW']
      exact ⟨(hK7.os.trans (hK6.os.trans (hB5.os.trans (hK4.os.trans hB3.os)))), (hK7.tape.trans (hK6.tape.trans (hB5.tape.trans (hK4.tape.trans hB3.tape)))), (hK7.output.trans (hK6.output.trans (hB5.output.trans (hK4.output.trans hB3.output))))⟩
    have hsz' : wr.heap.size ≤ W'.heap.size := by rw [hW']; simp [World.setCell]; omega
    have hb0 := h.below.size
    refine h.below.trans ⟨hos.1, hos.2.1, hos.2.2, hsz', fun k hk => ?_⟩
    rw [e7 k (by omega), f0 k (by omega) (by omega) (fun e => by have := (qb k e).1; omega) (by omega)]
/-- The store that stands when the loop is through. -/
theorem BldS.st {w0 wr : World} {s mv mk n : Nat} {zs : List Int} {szf : Nat → Nat} {its : List Rec} {q : Value} (h : BldS w0 s mv mk zs szf wr n its q) (hn : n ≤ 1024) (hzr : ∀ z ∈ zs, 0 ≤ z ∧ z < 65536) (hzs : ∀ (i j : Nat) (a b : Int), i ≤ j → zs[i]? = some a → zs[j]? = some b → a ≤ b)
    (hsf : ∀ k, szf k < 16) (hmv0 : w0.heap.size ≤ mv) (hmk0 : w0.heap.size ≤ mk) (hs0 : w0.heap.size ≤ s) (hmm : mv ≠ mk) (t : Nat) :
    ∃ bk cap, St (fun b => (rF its b).A) (fun b => (rF its b).d) (fun b => ixA (rF its b).A) (fun b => (rF its b).sl) (fun b => (rF its b).sz) wr s bk mv mk cap n 1073741824 (sumZ szf n : Nat) 0 (fF its) ∧
      (∀ k, StO (fun b => (rF its b).sl) s bk mv mk n (fF its) k → w0.heap.size ≤ k) ∧ cntZ zs t n = sumF (ind (fun b => (rF its b).d) t) (fF its) n ∧ bytZ zs szf t n = sumF (indS (fun b => (rF its b).d) (fun b => (rF its b).sz) t) (fF its) n ∧ sumZ szf n = sumF (fun b => (rF its b).sz) (fF its) n := by
  have hlen := h.len
  subst hlen
  have hdb : ∀ (k : Nat) (r : Rec), its[k]? = some r → r.d < 65536 := fun k r hr => by
    have := hzr _ (List.mem_of_getElem? (h.it k r hr).2.1); omega
  obtain ⟨qa, bk, cap, hq, hqa, hc1, hc2, hqu⟩ := qu_of (tp := 47) (ti := 53) (io := 134) (base := w0.heap.size) (cap := 0) h.inj h.row (fun k r hr => by
    obtain ⟨h1, h2, h3, h4, _⟩ := h.it k r hr
    exact ⟨h1, hdb k r hr, by rw [h4.it.size]; omega, h4.a0, h4.a1, h4.a2, h4.ix⟩) (fun k r hr e => blk_ne (ownsRow_block h.row e.symm).2.choose_spec (h.it k r hr).1 (by decide) rfl)
  obtain ⟨N, D, hmv, hN, hsz, hhas, _⟩ := h.val
  obtain ⟨N', D', hmk, hN', hat⟩ := h.byk
  have hix : ∀ (k : Nat) (r : Rec), its[k]? = some r → ixA (rF its (fF its k)).A = k := fun k r hr => by
    rw [rF_at h.inj hr]; exact ixA_at (h.it k r hr).2.2.2.1.ix
  have hob : 0 < its.length → q.ownBlock = some bk := fun h0 => by rw [hq, (hqa h0).1]; rfl
  refine ⟨bk, cap, ⟨⟨qa, by rw [← hq]; exact h.obj, fun h0 => (hqa h0).1⟩, hqu, heap_of h.inj (fun i j r r' hij hr hr' => ?_), fun k hk => ?_, fun i j hi hj e => ?_, ⟨N, D, hmv, hsz, fun k hk => ?_⟩, ⟨N', D', hmk, fun k hk z => ?_⟩, fun k hk => ?_, fun i j hi hj e => ?_, hmm, hc1, by unfold maxLen at hc2; omega, by omega⟩, ?_, ?_, ?_, ?_⟩
  · have := hzs i j _ _ hij (h.it i r hr).2.1 (h.it j r' hr').2.1
    omega
  · obtain ⟨r, hr⟩ := get_rec hk
    show ItemS (rF its (fF its k)).A (ixA (rF its (fF its k)).A) (rF its (fF its k)).sz ∧ ixA (rF its (fF its k)).A < 1024 ∧ (rF its (fF its k)).sz < 100
    rw [hix k r hr, rF_at h.inj hr]
    obtain ⟨h1, h2, h3, h4, h5⟩ := h.it k r hr
    have := hsf k
    exact ⟨h4.it, by omega, by omega⟩
  · obtain ⟨r, hr⟩ := get_rec hi
    obtain ⟨r', hr'⟩ := get_rec hj
    have e' : ixA (rF its (fF its i)).A = ixA (rF its (fF its j)).A := e
    rw [hix i r hr, hix j r' hr'] at e'
    exact e'
  · obtain ⟨r, hr⟩ := get_rec hk
    show Maps.has D (kV (ixA (rF its (fF its k)).A)) = true
    rw [hix k r hr]; exact hhas k hk
  · obtain ⟨r, hr⟩ := get_rec hk
    show D'.atKey (kT (ixA (rF its (fF its k)).A)) z = .lit (.int .u64 ((rF its (fF its k)).sl : Nat))
    rw [hix k r hr, rF_at h.inj hr]; exact hat k r hr z
  · obtain ⟨r, hr⟩ := get_rec hk
    show wr.heap[(rF its (fF its k)).sl]? = some (.cells #[.pointer (some ⟨fF its k, 0, none⟩)] 47 (0, 0)) ∧ (rF its (fF its k)).sl ≠ bk
    rw [rF_at h.inj hr, fF_at hr]
    obtain ⟨h1, h2, h3⟩ := h.sl k r hr
    exact ⟨h1, fun e => h2 (by rw [hob (by omega), e])⟩
  · obtain ⟨r, hr⟩ := get_rec hi
    obtain ⟨r', hr'⟩ := get_rec hj
    have e' : (rF its (fF its i)).sl = (rF its (fF its j)).sl := e
    rw [rF_at h.inj hr, rF_at h.inj hr'] at e'
    exact h.sinj i j r r' hr hr' e'
  · rintro k (e | ⟨h0, e⟩ | e | e | ⟨i, hi, e⟩)
    · omega
    · rw [e]; exact (hqa h0).2
    · omega
    · omega
    · obtain ⟨r, hr⟩ := get_rec hi
      rcases e with e | e
      · rw [e, fF_at hr]; exact (h.it i r hr).2.2.1
      · have e' : k = (rF its (fF its i)).sl := e
        rw [e', rF_at h.inj hr]; exact (h.sl i r hr).2.2
  · have : ∀ n, n ≤ its.length → cntZ zs t n = sumF (ind (fun b => (rF its b).d) t) (fF its) n := by
      intro n
      induction n with
      | zero => intro _; rfl
      | succ n ih =>
        intro hn
        obtain ⟨r, hr⟩ := get_rec (show n < its.length by omega)
        rw [cntZ, sumF, ih (by omega)]
        have e1 : ind (fun b => (rF its b).d) t (fF its n) = if t < r.d then 1 else 0 := by
          show (if t < (rF its (fF its n)).d then 1 else 0) = _
          rw [rF_at h.inj hr]
        have e2 : zs.getD n 0 = (r.d : Int) := by rw [List.getD_eq_getElem?_getD, (h.it n r hr).2.1]; rfl
        rw [e1, e2]
        by_cases hh : t < r.d
        · rw [if_pos hh, if_pos (by omega)]
        · rw [if_neg hh, if_neg (by omega)]
    exact this _ (Nat.le_refl _)
  · have : ∀ n, n ≤ its.length → bytZ zs szf t n = sumF (indS (fun b => (rF its b).d) (fun b => (rF its b).sz) t) (fF its) n := by
      intro n
      induction n with
      | zero => intro _; rfl
      | succ n ih =>
        intro hn
        obtain ⟨r, hr⟩ := get_rec (show n < its.length by omega)
        rw [bytZ, sumF, ih (by omega)]
        have e1 : indS (fun b => (rF its b).d) (fun b => (rF its b).sz) t (fF its n) = if t < r.d then szf n else 0 := by
          show (if t < (rF its (fF its n)).d then (rF its (fF its n)).sz else 0) = _
          rw [rF_at h.inj hr, (h.it n r hr).2.2.2.2]
        have e2 : zs.getD n 0 = (r.d : Int) := by rw [List.getD_eq_getElem?_getD, (h.it n r hr).2.1]; rfl
        rw [e1, e2]
        by_cases hh : t < r.d
        · rw [if_pos hh, if_pos (by omega)]
        · rw [if_neg hh, if_neg (by omega)]
    exact this _ (Nat.le_refl _)
  · have : ∀ n, n ≤ its.length → sumZ szf n = sumF (fun b => (rF its b).sz) (fF its) n := by
      intro n
      induction n with
      | zero => intro _; rfl
      | succ n ih =>
        intro hn
        obtain ⟨r, hr⟩ := get_rec (show n < its.length by omega)
        rw [sumZ, sumF, ih (by omega)]
        show _ = _ + (rF its (fF its n)).sz
        rw [rF_at h.inj hr, (h.it n r hr).2.2.2.2]
    exact this _ (Nat.le_refl _)
end Go.Proofs.Ybulkamjs
