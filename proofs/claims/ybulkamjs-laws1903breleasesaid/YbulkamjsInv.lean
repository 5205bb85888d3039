/- The directory's invariant, and what its methods do to it. -/
import Derived.Test.YbulkamjsNum
import Derived.Test.YbulkamjsHoldA
import Derived.Test.YbulkamjsHoldB
import Derived.Test.YbulkamjsHoldC
import Derived.Test.YbulkamjsRelA
import Derived.Maps.Views
namespace Go.Proofs.Ybulkamjs
open Go.RowKit Go.Maps Go.WideMaps

/-- How many of the four ids are held. -/
def live (cnt : Nat → Nat) : Nat := (if 0 < cnt 0 then 1 else 0) + (if 0 < cnt 1 then 1 else 0) + (if 0 < cnt 2 then 1 else 0) + (if 0 < cnt 3 then 1 else 0)
def upd (f : Nat → Nat) (k v : Nat) : Nat → Nat := fun j => if j = k then v else f j
theorem upd_same (f : Nat → Nat) (k v : Nat) : upd f k v k = v := if_pos rfl
theorem upd_ne (f : Nat → Nat) {k j : Nat} (v : Nat) (h : j ≠ k) : upd f k v j = f j := if_neg h
theorem live_upd_same {cnt : Nat → Nat} {k v : Nat} (h : 0 < cnt k) (hv : 0 < v) : live (upd cnt k v) = live cnt := by
  have e : ∀ j, (0 < upd cnt k v j) = (0 < cnt j) := fun j => by
    by_cases hj : j = k
    · subst hj; rw [upd_same]; simp [h, hv]
    · rw [upd_ne _ _ hj]
  simp only [live, e]
theorem live_upd_up {cnt : Nat → Nat} {k v : Nat} (hk : k < 4) (h : cnt k = 0) (hv : 0 < v) : live (upd cnt k v) = live cnt + 1 := by
  have : k = 0 ∨ k = 1 ∨ k = 2 ∨ k = 3 := by omega
  rcases this with e | e | e | e <;> subst e <;> simp [live, upd, h, hv] <;> omega
theorem live_upd_down {cnt : Nat → Nat} {k : Nat} (hk : k < 4) (h : 0 < cnt k) : live (upd cnt k 0) + 1 = live cnt := by
  have : k = 0 ∨ k = 1 ∨ k = 2 ∨ k = 3 := by omega
  rcases this with e | e | e | e <;> subst e <;> simp [live, upd, h] <;> omega

def fl (fr : List Nat) : List Value := fr.map fun (i : Nat) => Value.int .u32 (i : Int)

/-- A row's block. -/
theorem own_heap {w : World} {base : Nat} {e : TypeId} {size : Nat} {v : Value} {n : Nat} {xs : List Value} (h : w.ownsRow base e size v n xs) (g : Nat) (hg : v.ownBlock = some g) :
    base ≤ g ∧ ∃ cur, w.heap[g]? = some (.cells cur e (0, 0)) := by
  rcases h.2 with ⟨h, _⟩ | ⟨g', cap, cur, hv, hb', hg', r⟩
  · rw [h] at hg; cases hg
  · rw [hv] at hg
    have : g' = g := by simpa [Value.ownBlock] using hg
    subst this; exact ⟨hb', cur, hg'⟩
theorem own_open {w : World} {base : Nat} {e : TypeId} {size : Nat} {v : Value} {n : Nat} {xs : List Value} (h : w.ownsRow base e size v n xs) (hn : 0 < n) :
    ∃ g cap cur, v = .slice (some ⟨g, 0, none⟩) n cap ∧ base ≤ g ∧ w.heap[g]? = some (.cells cur e (0, 0)) ∧ n ≤ cap ∧ cap ≤ maxLen ∧ cur.size = cap * size ∧ (∀ j, j < n * size → cur[j]? = xs[j]?) ∧ cur.toList.take (n * size) = xs := by
  rcases h.2 with ⟨_, h⟩ | ⟨g', cap, cur, hv, hb', hg', h1, h2, h3, h4⟩
  · omega
  · refine ⟨g', cap, cur, hv, hb', hg', h1, h2, h3, fun j hj => ?_, h4⟩
    rw [← h4, List.getElem?_take, if_pos hj]; simp
theorem own_close {w : World} {base : Nat} {e : TypeId} {size g cap n : Nat} {cur : Array Value} {xs : List Value} (hb : base ≤ g) (hg : w.heap[g]? = some (.cells cur e (0, 0))) (h1 : n ≤ cap) (h2 : cap ≤ maxLen) (h3 : cur.size = cap * size)
    (hl : xs.length = n * size) (h : ∀ j, j < n * size → cur[j]? = xs[j]?) : w.ownsRow base e size (.slice (some ⟨g, 0, none⟩) n cap) n xs := by
  refine ⟨hl, .inr ⟨g, cap, cur, rfl, hb, hg, h1, h2, h3, ?_⟩⟩
  apply List.ext_getElem?
  intro j
  rw [List.getElem?_take]
  by_cases hj : j < n * size
  · rw [if_pos hj, ← h j hj]; simp
  · rw [if_neg hj, List.getElem?_eq_none (by omega)]

/-- The directory in the world w: base: all that it owns lies there or behind; av: blocks that it does not own; t: a bound; cnt: the holds on each of the four ids; sl: their numbers; fr: the free numbers. -/
structure DirAt (av : Nat → Prop) (base d : Nat) (kl : Nat → Lit) (t : Nat) (cnt sl : Nat → Nat) (fr : List Nat) (w : World) (m N n : Nat) (I R F : Value) (ids refs : List Value) (D : DataW Unit) : Prop where
  hd : w.heap[d]? = some (dirObj 0 I R m F)
  hm : w.ownsMap Yba.prog 40 (plainElem Yba.prog 102) m N D
  hI : w.ownsRow base 40 64 I n ids
  hR : w.ownsRow base 102 1 R n refs
  hF : w.ownsRow base 102 1 F fr.length (fl fr)
  RF : ∀ g, R.ownBlock = some g → F.ownBlock ≠ some g
  avd : ¬ av d
  avm : ¬ av m
  avI : ∀ g, I.ownBlock = some g → ¬ av g
  avR : ∀ g, R.ownBlock = some g → ¬ av g
  avF : ∀ g, F.ownBlock = some g → ¬ av g
  hsl : ∀ k, k < 4 → 0 < cnt k → sl k < n
  hids : ∀ k, k < 4 → 0 < cnt k → ∀ j v, (idk k)[j]? = some v → ids[sl k * 64 + j]? = some v
  hrefs : ∀ k, k < 4 → 0 < cnt k → refs[sl k]? = some (.int .u32 (cnt k))
  hat : ∀ k, k < 4 → 0 < cnt k → D.atKey (kl k) (.lit (.int .u32 0)) = .lit (.int .u32 (sl k))
  hinj : ∀ j k, j < 4 → k < 4 → 0 < cnt j → 0 < cnt k → sl j = sl k → j = k
  hhas : ∀ k, k < 4 → Maps.has D (kl k) = decide (0 < cnt k)
  hsize : Maps.size D = live cnt
  hfr : ∀ i, i ∈ fr → i < n ∧ ∀ k, k < 4 → 0 < cnt k → sl k ≠ i
  hnd : fr.Nodup
  bn : n ≤ t
  bN : N ≤ t
  bf : fr.length ≤ t
  bc : ∀ k, cnt k ≤ t

def Dir (av : Nat → Prop) (base d : Nat) (kl : Nat → Lit) (t : Nat) (cnt sl : Nat → Nat) (fr : List Nat) (w : World) : Prop :=
  ∃ m N n I R F ids refs D, DirAt av base d kl t cnt sl fr w m N n I R F ids refs D

section
variable {av : Nat → Prop} {base d : Nat} {kl : Nat → Lit} {t : Nat} {cnt sl : Nat → Nat} {fr : List Nat} {w w' : World} {m N n : Nat} {I R F : Value} {ids refs : List Value} {D : DataW Unit}

theorem DirAt.Id (h : DirAt av base d kl t cnt sl fr w m N n I R F ids refs D) : I.ownBlock ≠ some d := fun e => by
  obtain ⟨_, cur, hc⟩ := own_heap h.hI d e
  have := h.hd; rw [hc] at this; simp [dirObj] at this
theorem DirAt.Rd (h : DirAt av base d kl t cnt sl fr w m N n I R F ids refs D) : R.ownBlock ≠ some d := fun e => by
  obtain ⟨_, cur, hc⟩ := own_heap h.hR d e
  have := h.hd; rw [hc] at this; simp [dirObj] at this
theorem DirAt.Fd (h : DirAt av base d kl t cnt sl fr w m N n I R F ids refs D) : F.ownBlock ≠ some d := fun e => by
  obtain ⟨_, cur, hc⟩ := own_heap h.hF d e
  have := h.hd; rw [hc] at this; simp [dirObj] at this
theorem DirAt.Im (h : DirAt av base d kl t cnt sl fr w m N n I R F ids refs D) : I.ownBlock ≠ some m := fun e => by
  obtain ⟨_, cur, hc⟩ := own_heap h.hI m e
  exact ownsMap_ne h.hm hc rfl
theorem DirAt.Rm (h : DirAt av base d kl t cnt sl fr w m N n I R F ids refs D) : R.ownBlock ≠ some m := fun e => by
  obtain ⟨_, cur, hc⟩ := own_heap h.hR m e
  exact ownsMap_ne h.hm hc rfl
theorem DirAt.Fm (h : DirAt av base d kl t cnt sl fr w m N n I R F ids refs D) : F.ownBlock ≠ some m := fun e => by
  obtain ⟨_, cur, hc⟩ := own_heap h.hF m e
  exact ownsMap_ne h.hm hc rfl
theorem DirAt.IR (h : DirAt av base d kl t cnt sl fr w m N n I R F ids refs D) (g : Nat) (e : I.ownBlock = some g) : R.ownBlock ≠ some g := fun e' => by
  obtain ⟨_, cur, hc⟩ := own_heap h.hI g e
  obtain ⟨_, cur', hc'⟩ := own_heap h.hR g e'
  rw [hc] at hc'; simp at hc'
theorem DirAt.IF (h : DirAt av base d kl t cnt sl fr w m N n I R F ids refs D) (g : Nat) (e : I.ownBlock = some g) : F.ownBlock ≠ some g := fun e' => by
  obtain ⟨_, cur, hc⟩ := own_heap h.hI g e
  obtain ⟨_, cur', hc'⟩ := own_heap h.hF g e'
  rw [hc] at hc'; simp at hc'
theorem DirAt.dm (h : DirAt av base d kl t cnt sl fr w m N n I R F ids refs D) : m ≠ d := ownsMap_ne h.hm h.hd

/-- The directory where its blocks are kept. -/
theorem DirAt.keep {av' : Nat → Prop} (h : DirAt av base d kl t cnt sl fr w m N n I R F ids refs D) (hs : ∀ k, k < w.heap.size → ¬ av k → w'.heap[k]? = w.heap[k]?) (ha : ∀ k, k < w.heap.size → av' k → av k) :
    DirAt av' base d kl t cnt sl fr w' m N n I R F ids refs D :=
  have lt : ∀ {k : Nat} {o : Obj}, w.heap[k]? = some o → k < w.heap.size := fun h => lt_of_heap h
  { h with
    hd := (hs d (lt h.hd) h.avd).trans h.hd
    hm := ownsMap_heap h.hm (hs m (ownsMap_lt h.hm) h.avm)
    hI := ownsRow_kept h.hI (fun g hg => hs g (ownsRow_lt h.hI g hg) (h.avI g hg))
    hR := ownsRow_kept h.hR (fun g hg => hs g (ownsRow_lt h.hR g hg) (h.avR g hg))
    hF := ownsRow_kept h.hF (fun g hg => hs g (ownsRow_lt h.hF g hg) (h.avF g hg))
    avd := fun e => h.avd (ha d (lt h.hd) e)
    avm := fun e => h.avm (ha m (ownsMap_lt h.hm) e)
    avI := fun g hg e => h.avI g hg (ha g (ownsRow_lt h.hI g hg) e)
    avR := fun g hg e => h.avR g hg (ha g (ownsRow_lt h.hR g hg) e)
    avF := fun g hg e => h.avF g hg (ha g (ownsRow_lt h.hF g hg) e) }
theorem Dir.keep {av' : Nat → Prop} (h : Dir av base d kl t cnt sl fr w) (hs : ∀ k, k < w.heap.size → ¬ av k → w'.heap[k]? = w.heap[k]?) (ha : ∀ k, k < w.heap.size → av' k → av k) : Dir av' base d kl t cnt sl fr w' := by
  obtain ⟨m, N, n, I, R, F, ids, refs, D, h⟩ := h
  exact ⟨m, N, n, I, R, F, ids, refs, D, h.keep hs ha⟩
theorem Dir.mono {t' : Nat} (h : Dir av base d kl t cnt sl fr w) (ht : t ≤ t') : Dir av base d kl t' cnt sl fr w := by
  obtain ⟨m, N, n, I, R, F, ids, refs, D, h⟩ := h
  exact ⟨m, N, n, I, R, F, ids, refs, D, { h with bn := Nat.le_trans h.bn ht, bN := Nat.le_trans h.bN ht, bf := Nat.le_trans h.bf ht, bc := fun k => Nat.le_trans (h.bc k) ht }⟩

/-- What the law reads of a directory: at the number i stand the id X and c holds; the free numbers. -/
def Reads (av : Nat → Prop) (w : World) (d i : Nat) (X : List Value) (c : Nat) (fr : List Nat) : Prop :=
  ∃ gi capi gr capr n m af capf, w.heap[d]? = some (dirObj 0 (.slice (some ⟨gi, 0, none⟩) n capi) (.slice (some ⟨gr, 0, none⟩) n capr) m (.slice af fr.length capf)) ∧ i < n ∧ n < 100000 ∧
    w.rangeAt gi (i * 64) X ∧ w.cell? ⟨gr, i, none⟩ = some (.int .u32 c) ∧ (gi < w.heap.size ∧ ¬ av gi) ∧ (gr < w.heap.size ∧ ¬ av gr) ∧ ¬ av d ∧
    ∀ (fr0 : List Nat) (j : Nat), fr = fr0 ++ [j] → ∃ gf, af = some ⟨gf, 0, none⟩ ∧ (gf < w.heap.size ∧ ¬ av gf) ∧ w.cell? ⟨gf, fr0.length, none⟩ = some (.int .u32 j)

theorem free_form (h : w.ownsRow base 102 1 F fr.length (fl fr)) (hav : ∀ g, F.ownBlock = some g → ¬ av g) : ∃ af capf, F = .slice af fr.length capf ∧ ∀ (fr0 : List Nat) (j : Nat), fr = fr0 ++ [j] → ∃ gf, af = some ⟨gf, 0, none⟩ ∧ (gf < w.heap.size ∧ ¬ av gf) ∧ w.cell? ⟨gf, fr0.length, none⟩ = some (.int .u32 j) := by
  rcases h.2 with ⟨h1, h2⟩ | ⟨g, cap, cur, hv, _⟩
  · refine ⟨none, 0, by rw [h1, h2], fun fr0 j e => ?_⟩
    rw [e] at h2; simp at h2
  · refine ⟨_, _, hv, fun fr0 j e => ?_⟩
    have hl : 0 < fr.length := by rw [e]; simp
    obtain ⟨g', cap', cur', hv', _, hg', _, _, _, hc, _⟩ := own_open h hl
    have hgg : g' = g := by rw [hv] at hv'; injection hv' with h1 _ _; injection h1 with h1; injection h1 with h1; exact h1.symm
    subst hgg
    refine ⟨g', rfl, ⟨lt_of_heap hg', hav g' (by rw [hv]; rfl)⟩, ?_⟩
    rw [cell_of_row w g' _ _ 102 (0, 0) hg', hc _ (by rw [e]; simp), e]
    simp [fl]

theorem Dir.reads (h : Dir av base d kl t cnt sl fr w) {k : Nat} (hk : k < 4) (hc : 0 < cnt k) (ht : t < 100000) : Reads av w d (sl k) (idk k) (cnt k) fr := by
  obtain ⟨m, N, n, I, R, F, ids, refs, D, h⟩ := h
  have hs := h.hsl k hk hc
  obtain ⟨gi, capi, CI, rfl, _, hgi, _, _, _, hci, _⟩ := own_open h.hI (by omega)
  obtain ⟨gr, capr, CR, rfl, _, hgr, _, _, _, hcr, _⟩ := own_open h.hR (by omega)
  obtain ⟨af, capf, rfl, hf⟩ := free_form h.hF h.avF
  refine ⟨gi, capi, gr, capr, n, m, af, capf, h.hd, hs, by have := h.bn; omega, fun j v hv => ?_, ?_, ⟨lt_of_heap hgi, h.avI _ rfl⟩, ⟨lt_of_heap hgr, h.avR _ rfl⟩, h.avd, hf⟩
  · have hj : j < 64 := by have := (List.getElem?_eq_some_iff.1 hv).1; rw [idk_len] at this; exact this
    rw [cell_of_row w gi _ _ 40 (0, 0) hgi, hci _ (by omega)]
    exact h.hids k hk hc j v hv
  · rw [cell_of_row w gr _ _ 102 (0, 0) hgr, hcr _ (by omega)]
    exact h.hrefs k hk hc

theorem Reads.keep {i c : Nat} {X : List Value} (h : Reads av w d i X c fr) (hs : ∀ k, k < w.heap.size → ¬ av k → w'.heap[k]? = w.heap[k]?) (hz : w.heap.size ≤ w'.heap.size) : Reads av w' d i X c fr := by
  obtain ⟨gi, capi, gr, capr, n, m, af, capf, h1, h2, h3, h4, h5, h6, h7, h0, h8⟩ := h
  refine ⟨gi, capi, gr, capr, n, m, af, capf, (hs d (lt_of_heap h1) h0).trans h1, h2, h3, fun j v hv => ?_, ?_, ⟨by omega, h6.2⟩, ⟨by omega, h7.2⟩, h0, fun fr0 j e => ?_⟩
  · rw [World.cell?_of_block (hs gi h6.1 h6.2)]; exact h4 j v hv
  · rw [World.cell?_of_block (hs gr h7.1 h7.2)]; exact h5
  · obtain ⟨gf, e1, e2, e3⟩ := h8 fr0 j e
    exact ⟨gf, e1, ⟨by omega, e2.2⟩, by rw [World.cell?_of_block (hs gf e2.1 e2.2)]; exact e3⟩
end
end Go.Proofs.Ybulkamjs
