/- (*Directory).hold of an id that is new, no number free. -/
import Derived.Test.YbulkamjsDir
import Derived.Test.YbulkamjsLate
import Derived.Test.YbulkamjsRelB
import Derived.Deep.AppendLies
import Derived.Great.BuildSlice
namespace Go.Proofs.Ybulkamjs
set_option linter.unusedSimpArgs false
open Go.RowKit Go.Maps Go.WideMaps Go.MuLone
attribute [-simp] Yba.zeroValue40 Yba.typeInfo40
attribute [-go_sem] loadCells
attribute [local simp] zero40

theorem info40 : ∃ ti, Yba.prog.info? 40 = some ti ∧ ti.zero = some (.agg zid.toArray) ∧ ti.size = 64 ∧ ti.bytes = 64 := by
  have h1 : (Yba.prog.info? 40).map (fun t => (t.size, t.bytes)) = some (64, 64) := by kernel_rfl
  have h2 : (Yba.prog.info? 40).bind (fun t => t.zero) = some (.agg zid.toArray) := by kernel_rfl
  cases h : Yba.prog.info? 40 with
  | none => rw [h] at h1; cases h1
  | some ti =>
    rw [h] at h1 h2
    simp only [Option.map_some, Option.some.injEq, Prod.mk.injEq, Option.bind_some] at h1 h2
    exact ⟨ti, rfl, h2, h1.1, h1.2⟩

theorem fill40 {X : List Value} (hX : X.length = 64) (cells : Array Value) (hc : cells.size = 64) : Instr.fill (fun i => some (i * 64, 64)) cells [(0, .agg X.toArray)] = some X.toArray := by
  have := Great.fill_whole (s := 64) (by omega) [.agg X.toArray] cells (by intro v hv; simp at hv; subst hv; simp [Value.cells, hX]) (by simp [hc])
  simpa [Value.cells] using this
theorem fill102 (v : Value) (h1 : v.cells = #[v]) (cells : Array Value) (hc : cells.size = 1) : Instr.fill (fun i => some (i * 1, 1)) cells [(0, v)] = some #[v] := by
  have := Great.fill_flat [v] cells (by intro u hu; simp at hu; subst hu; exact h1) (by simp [hc])
  simpa using this

theorem step_wp {P : Program} {ops : Array Oper} {o : Oper} {a : Act} {w : World} {K : Act → World → Prop} {Q : Exit → Act → World → Prop} {E : Prop} (hgd : o.guard = none) (h : Oper.wp P o a w K Q) :
    if Region.wanted o (yielded ops a.tmps) = true then Oper.wp P o a w K Q else E := by
  have hw : Region.wanted o (yielded ops a.tmps) = true := by simp [Region.wanted, hgd]
  rw [if_pos hw]; exact h

theorem ownsRow_kept {w w' : World} {base : Nat} {e : TypeId} {size : Nat} {v : Value} {n : Nat} {xs : List Value} (h : w.ownsRow base e size v n xs) (hb : ∀ g, v.ownBlock = some g → w'.heap[g]? = w.heap[g]?) : w'.ownsRow base e size v n xs := by
  refine ⟨h.1, ?_⟩
  rcases h.2 with h | ⟨g, cap, cur, hv, hb', hg, r⟩
  · exact .inl h
  · exact .inr ⟨g, cap, cur, hv, hb', (hb g (by rw [hv]; rfl)).trans hg, r⟩


theorem ownsRow_lt {w : World} {base : Nat} {e : TypeId} {size : Nat} {v : Value} {n : Nat} {xs : List Value} (h : w.ownsRow base e size v n xs) (g : Nat) (hg : v.ownBlock = some g) : g < w.heap.size := by
  rcases h.2 with ⟨h, _⟩ | ⟨g', cap, cur, hv, hb', hg', r⟩
  · rw [h] at hg; cases hg
  · rw [hv] at hg
    have : g' = g := by simpa [Value.ownBlock] using hg
    rw [← this]; exact lt_of_heap hg'

/-- Two rows, grown side by side since the world W. -/
structure St (base : Nat) (I0 R0 : Value) (W w2 : World) (I R : Value) (n1 n2 : Nat) (xs ys : List Value) : Prop where
  kept : Kept (fun k => I0.ownBlock = some k ∨ R0.ownBlock = some k) W w2
  rI : w2.ownsRow base 40 64 I n1 xs
  rR : w2.ownsRow base 102 1 R n2 ys
  srcI : ∀ g, I.ownBlock = some g → I0.ownBlock = some g ∨ W.heap.size ≤ g
  srcR : ∀ g, R.ownBlock = some g → R0.ownBlock = some g ∨ W.heap.size ≤ g
  apart : ∀ g, I.ownBlock = some g → R.ownBlock ≠ some g

section
variable {base : Nat} {I0 R0 : Value} {W w2 w3 : World} {I R : Value} {n1 n2 g c k : Nat} {xs ys zs : List Value}
theorem St.alloc (h : St base I0 R0 W w2 I R n1 n2 xs ys) (o : Obj) : St base I0 R0 W (w2.alloc o) I R n1 n2 xs ys :=
  ⟨h.kept.alloc o, h.rI.alloc o, h.rR.alloc o, h.srcI, h.srcR, h.apart⟩
theorem own_slice {g n c : Nat} (k : Nat) (h : (Value.slice (some ⟨g, 0, none⟩) n c).ownBlock = some k) : k = g := by
  simpa [Value.ownBlock] using h.symm
theorem St.appI (h : St base I0 R0 W w2 I R n1 n2 xs ys) (ho : w3.ownsRow base 40 64 (.slice (some ⟨g, 0, none⟩) k c) k zs) (hg : w2.grownBy w3 I.ownBlock) (hat : I.ownBlock = some g ∨ g = w2.heap.size) :
    St base I0 R0 W w3 (.slice (some ⟨g, 0, none⟩) k c) R k n2 zs ys := by
  refine ⟨h.kept.grown hg (fun k e hk => (h.srcI k e).imp id (fun h' => by omega)), ho, ownsRow_kept h.rR (fun g' hg' => hg.block g' (ownsRow_lt h.rR g' hg') (fun e => h.apart g' e.symm hg')), ?_, h.srcR, ?_⟩
  · intro k hk
    obtain rfl := own_slice k hk
    rcases hat with h' | h'
    · exact h.srcI _ h'
    · right; rw [h']; exact h.kept.size
  · intro k hk hr
    obtain rfl := own_slice k hk
    rcases hat with h' | h'
    · exact h.apart _ h' hr
    · have := ownsRow_lt h.rR _ hr; omega
theorem St.appR (h : St base I0 R0 W w2 I R n1 n2 xs ys) (ho : w3.ownsRow base 102 1 (.slice (some ⟨g, 0, none⟩) k c) k zs) (hg : w2.grownBy w3 R.ownBlock) (hat : R.ownBlock = some g ∨ g = w2.heap.size) :
    St base I0 R0 W w3 I (.slice (some ⟨g, 0, none⟩) k c) n1 k xs zs := by
  refine ⟨h.kept.grown hg (fun k e hk => .inr ((h.srcR k e).resolve_right (by omega))), ownsRow_kept h.rI (fun g' hg' => hg.block g' (ownsRow_lt h.rI g' hg') (fun e => h.apart g' hg' e.symm)), ho, h.srcI, ?_, ?_⟩
  · intro k hk
    obtain rfl := own_slice k hk
    rcases hat with h' | h'
    · exact h.srcR _ h'
    · right; rw [h']; exact h.kept.size
  · intro k hi hk
    obtain rfl := own_slice k hk
    rcases hat with h' | h'
    · exact h.apart _ hi h'
    · have := ownsRow_lt h.rI _ hi; omega
/-- The cells that the region's loads read. -/
theorem St.reads (h : St base I0 R0 W w2 I R n1 n2 xs ys) {d H m : Nat} {F : Value} {X : List Value} (hd : W.heap[d]? = some (dirObj 1 I0 R0 m F)) (hH : W.heap[H]? = some (.cells X.toArray 40 (0, 0)))
    (hId : I0.ownBlock ≠ some d) (hRd : R0.ownBlock ≠ some d) (hIH : I0.ownBlock ≠ some H) (hRH : R0.ownBlock ≠ some H) :
    w2.cell? ⟨d, 2, none⟩ = some I0 ∧ w2.cell? ⟨d, 3, none⟩ = some R0 ∧ w2.rangeAt H 0 X := by
  have h1 : w2.heap[d]? = some (dirObj 1 I0 R0 m F) := (h.kept.block d (lt_of_heap hd) (fun h' => h'.elim hId hRd)).trans hd
  have h2 : w2.heap[H]? = some (.cells X.toArray 40 (0, 0)) := (h.kept.block H (lt_of_heap hH) (fun h' => h'.elim hIH hRH)).trans hH
  refine ⟨dir2 h1, dir3 h1, fun j v hv => ?_⟩
  rw [Nat.zero_add, cell_of_row w2 H j _ 40 (0, 0) h2]; simpa using hv
end

theorem step_bs57 {ops : Array Oper} {o : Oper} {a : Act} {w : World} {K : Act → World → Prop} {Q : Exit → Act → World → Prop} {E : Prop} {base n n2 : Nat} {I0 R0 I R : Value} {W : World} {xs ys X : List Value} (x : Operand) (hgd : o.guard = none) (ho : o.op = .buildSlice 57 1 #[(0, x)])
    (hx : a.eval x = .agg X.toArray) (hX : X.length = 64) (hst : St base I0 R0 W w I R n n2 xs ys)
    (h : ∀ L w', St base I0 R0 W w' I R n n2 xs ys → w'.heap[L]? = some (.cells X.toArray 40 (0, 0)) → w.heap.size = L → (∀ k, k < w.heap.size → w'.heap[k]? = w.heap[k]?) → K (a.put o.dst (.slice (some ⟨L, 0, none⟩) 1 1)) w') :
    if Region.wanted o (yielded ops a.tmps) = true then Oper.wp Yba.prog o a w K Q else E := by
  obtain ⟨ti, ti1, ti2, ti3, ti4⟩ := info40
  refine step_wp hgd (wp_buildSlice 57 40 1 _ ho X.toArray ti _ Yba.underlying57 ti1 ti2 (by rw [ti3]; omega) (by rw [ti3]; omega) ?_ ?_)
  · rw [ti3]
    simp only [List.map_toArray, List.map_cons, List.map_nil, hx]
    exact fill40 hX _ (by simp)
  · exact h w.heap.size _ (hst.alloc _) (MapKept.heap_alloc _ _).1 rfl (fun k hk => Below.heap_alloc _ _ _ hk)
theorem step_bs111 {ops : Array Oper} {o : Oper} {a : Act} {w : World} {K : Act → World → Prop} {Q : Exit → Act → World → Prop} {E : Prop} {base n n2 : Nat} {I0 R0 I R : Value} {W : World} {xs ys : List Value} (x : Operand) (hgd : o.guard = none) (ho : o.op = .buildSlice 111 1 #[(0, x)])
    (hx : a.eval x = .int .u32 1) (hst : St base I0 R0 W w I R n n2 xs ys)
    (h : ∀ L w', St base I0 R0 W w' I R n n2 xs ys → w'.heap[L]? = some (.cells #[.int .u32 1] 102 (0, 0)) → w.heap.size = L → (∀ k, k < w.heap.size → w'.heap[k]? = w.heap[k]?) → K (a.put o.dst (.slice (some ⟨L, 0, none⟩) 1 1)) w') :
    if Region.wanted o (yielded ops a.tmps) = true then Oper.wp Yba.prog o a w K Q else E := by
  obtain ⟨ti, ti1, ti2, ti3, ti4⟩ := info102
  refine step_wp hgd (wp_buildSlice 111 102 1 _ ho #[.int .u32 1] ti _ Yba.underlying111 ti1 ti2 (by rw [ti3]; omega) (by rw [ti3]; omega) ?_ ?_)
  · rw [ti3]
    simp only [List.map_toArray, List.map_cons, List.map_nil, hx]
    exact fill102 _ rfl _ (by simp)
  · exact h w.heap.size _ (hst.alloc _) (MapKept.heap_alloc _ _).1 rfl (fun k hk => Below.heap_alloc _ _ _ hk)

theorem step_app57 {ops : Array Oper} {o : Oper} {a : Act} {w : World} {K : Act → World → Prop} {Q : Exit → Act → World → Prop} {E : Prop} {base n n2 H : Nat} {I0 R0 I R : Value} {W : World} {xs ys X : List Value}
    (s x : Operand) (hgd : o.guard = none) (ho : o.op = .call { callee := .builtin .append, args := #[s, x], argTypes := #[57, 57] }) (hs : a.eval s = I) (hx : a.eval x = .slice (some ⟨H, 0, none⟩) 1 1)
    (hst : St base I0 R0 W w I R n n2 xs ys) (hH : w.heap[H]? = some (.cells X.toArray 40 (0, 0))) (hX : X.length = 64) (hX1 : ∀ v ∈ X, v.oneCell' = true) (hn : n < 100000) (hbase : base ≤ W.heap.size)
    (h : ∀ g cap w', St base I0 R0 W w' (.slice (some ⟨g, 0, none⟩) (n + 1) cap) R (n + 1) n2 (xs ++ X) ys → (∀ k, k < w.heap.size → some k ≠ I.ownBlock → w'.heap[k]? = w.heap[k]?) → K (a.put o.dst (.slice (some ⟨g, 0, none⟩) (n + 1) cap)) w') :
    if Region.wanted o (yielded ops a.tmps) = true then Oper.wp Yba.prog o a w K Q else E := by
  obtain ⟨ti, ti1, ti2, ti3, ti4⟩ := info40
  have hb := hst.kept.size
  refine step_append_lies _ hgd s x 57 ho base 40 ti _ 64 64 Yba.underlying57 ti1 ti2 ti3 ti4 (by simp [Value.cells, zid_len]) (by omega) I n xs hs hst.rI ⟨H, 0, none⟩ 1 1 X hx (by rw [hX]) ?_ hX1 (by omega) (by unfold maxLen; omega) (by omega) (by omega) _ rfl ?_
  · exact World.news_of_block hH
  · intro g cap w2 hown hg hat _
    exact h g cap w2 (hst.appI hown hg hat) hg.block
theorem step_app111 {ops : Array Oper} {o : Oper} {a : Act} {w : World} {K : Act → World → Prop} {Q : Exit → Act → World → Prop} {E : Prop} {base n n1 H : Nat} {I0 R0 I R : Value} {W : World} {xs ys : List Value}
    (s x : Operand) (hgd : o.guard = none) (ho : o.op = .call { callee := .builtin .append, args := #[s, x], argTypes := #[111, 111] }) (hs : a.eval s = R) (hx : a.eval x = .slice (some ⟨H, 0, none⟩) 1 1)
    (hst : St base I0 R0 W w I R n1 n xs ys) (hH : w.heap[H]? = some (.cells #[.int .u32 1] 102 (0, 0))) (hn : n < 100000) (hbase : base ≤ W.heap.size)
    (h : ∀ g cap w', St base I0 R0 W w' I (.slice (some ⟨g, 0, none⟩) (n + 1) cap) n1 (n + 1) xs (ys ++ [.int .u32 1]) → K (a.put o.dst (.slice (some ⟨g, 0, none⟩) (n + 1) cap)) w') :
    if Region.wanted o (yielded ops a.tmps) = true then Oper.wp Yba.prog o a w K Q else E := by
  obtain ⟨ti, ti1, ti2, ti3, ti4⟩ := info102
  have hb := hst.kept.size
  refine step_append_lies _ hgd s x 111 ho base 102 ti _ 1 4 Yba.underlying111 ti1 ti2 ti3 ti4 rfl (by omega) R n ys hs hst.rR ⟨H, 0, none⟩ 1 1 [.int .u32 1] hx (by simp) ?_ (by intro u hu; simp at hu; subst hu; rfl) (by omega) (by unfold maxLen; omega) (by omega) (by omega) _ rfl ?_
  · exact World.news_of_block (cs := #[.int .u32 1]) hH
  · intro g cap w2 hown hg hat _
    exact h g cap w2 (hst.appR hown hg hat)

set_option maxRecDepth 20000 in
set_option maxHeartbeats 8000000 in
theorem hold_new (base d m N n capf : Nat) (af : Option Addr) (I R : Value) (ids refs : List Value) (D : DataW Unit) (X : List Value) (kl : Lit) (w : World)
    (hd : w.heap[d]? = some (dirObj 0 I R m (.slice af 0 capf)))
    (hown : w.ownsMap Yba.prog 40 (plainElem Yba.prog 102) m N D) (hX : X.length = 64) (hkey : keyOf Yba.prog 40 (.agg X.toArray) = some kl)
    (hhas : Maps.has D kl = false) (hI : w.ownsRow base 40 64 I n ids) (hR : w.ownsRow base 102 1 R n refs) (hnb : n < 100000) (hX1 : ∀ v ∈ X, v.oneCell' = true)
    (hId : I.ownBlock ≠ some d) (hRd : R.ownBlock ≠ some d) (hIm : I.ownBlock ≠ some m) (hRm : R.ownBlock ≠ some m) (hap : ∀ g, I.ownBlock = some g → R.ownBlock ≠ some g) (hbase : base ≤ w.heap.size) (hN : N < maxLen) :
    Calls Yba.prog 17 #[.pointer (some ⟨d, 0, none⟩), .agg X.toArray] w fun e w' => e = .returned (.int .u32 n) ∧ ∃ gI cI' gR cR',
      w'.heap[d]? = some (dirObj 0 (.slice (some ⟨gI, 0, none⟩) (n + 1) cI') (.slice (some ⟨gR, 0, none⟩) (n + 1) cR') m (.slice af 0 capf)) ∧
      w'.ownsRow base 40 64 (.slice (some ⟨gI, 0, none⟩) (n + 1) cI') (n + 1) (ids ++ X) ∧ w'.ownsRow base 102 1 (.slice (some ⟨gR, 0, none⟩) (n + 1) cR') (n + 1) (refs ++ [.int .u32 1]) ∧
      w'.ownsMap Yba.prog 40 (plainElem Yba.prog 102) m (N + 1) (D.put kl (.lit (.int .u32 n))) ∧
      (I.ownBlock = some gI ∨ w.heap.size ≤ gI) ∧ (R.ownBlock = some gR ∨ w.heap.size ≤ gR) ∧ gI ≠ gR ∧
      Kept (fun k => k = d ∨ k = m ∨ I.ownBlock = some k ∨ R.ownBlock = some k) w w' := by
  have c0 := dir0 hd
  have f0 := dirF hd 0
  have hdm : m ≠ d := ownsMap_ne hown hd
  have hdlt : d < w.heap.size := lt_of_heap hd
  obtain ⟨cI, capI, eI⟩ : ∃ a c, I = .slice a n c := by
    rcases hI.2 with ⟨h, h0⟩ | ⟨g, cap, cur, hv, _⟩
    · exact ⟨none, 0, by rw [h, h0]⟩
    · exact ⟨_, _, hv⟩
  have HX1 : Hid (∀ v ∈ X, v.oneCell' = true) := hX1
  have Hap : Hid (∀ g, I.ownBlock = some g → R.ownBlock ≠ some g) := hap
  have HeI : Hid (I = .slice cI n capI) := eI
  have Hd : Hid _ := hd
  have Hhas : Hid _ := hhas
  clear hd hhas eI hX1 hap
  go_enter_defers Yba.func17, Yba.ntmps17
  go_wp2_with (go_at_call 32; refine (lock_free Yba.muLib ⟨d, 0, none⟩ _ (by go_simp) (by go_simp)).mono ?_; rintro e w' ⟨rfl, rfl⟩)
  generalize hW : (w.setCell ⟨d, 0, none⟩ (.int .i32 1)).alloc (.cells X.toArray 40 (0, 0)) = W
  have hW' : Hid _ := hW
  clear hW
  have hK : Hid (Kept (fun k => k = d) w W) := by
    rw [← hW'.out]
    exact ((Kept.refl (fun k => k = d) w).setCell ⟨d, 0, none⟩ (fun _ => rfl) _).alloc _
  have hdW : W.heap[d]? = some (dirObj 1 I R m (.slice af 0 capf)) := by
    rw [← hW'.out, (MapKept.heap_alloc _ _).2 d (by simpa [World.setCell] using hdlt)]
    exact dir_lock Hd.out 1
  have hNW : W.heap[w.heap.size]? = some (.cells X.toArray 40 (0, 0)) := by
    rw [← hW'.out]
    have := (MapKept.heap_alloc (w.setCell ⟨d, 0, none⟩ (.int .i32 1)) (.cells X.toArray 40 (0, 0))).1
    simpa [World.setCell] using this
  have ho : W.drew.ownsMap Yba.prog 40 (plainElem Yba.prog 102) m N D :=
    ownsMap_heap hown (hK.out.block m (ownsMap_lt hown) hdm)
  have k0 := dir0 hdW
  have k2 := dir2 hdW
  have k3 := dir3 hdW
  have k4 := dir4 hdW
  have k5 := dir5 hdW
  have HdW : Hid _ := hdW
  have HNW : Hid _ := hNW
  have hl : (loadCells ⟨w.heap.size, 0, none⟩ 64).run Yba.prog W.drew = .ok X.toArray W.drew :=
    lc40_block (w := W.drew) (t := 40) (fr := (0, 0)) hNW hX
  clear hdW hNW
  obtain ⟨v, ps, hlk, hv⟩ := ho.look_ok keyed40 Yba.underlying112 (zero102 _) (plainElem_int Yba.underlying102 (by decide)) hkey
  obtain ⟨c, rfl, hat, hwc⟩ := plainElem_int_inv Yba.underlying102 hv
  rw [Hhas.out] at hlk
  have Ho : Hid (W.drew.ownsMap Yba.prog 40 (plainElem Yba.prog 102) m N D) := ho
  have HI : Hid (w.ownsRow base 40 64 I n ids) := hI
  have HR : Hid (w.ownsRow base 102 1 R n refs) := hR
  clear c0 f0 hv hown ho hat hI hR
  refine wp_region_still_lit (by kernel_rfl) (by kernel_rfl) ?_
  change wpStill _ _ W.drew _ _ _
  repeat still_step
  refine wpStill_nil ?_
  change Exit.then _ _ _ _ W.drew
  clear hl hlk
  rw [HeI.out] at k2
  go_wp2
  rw [← HeI.out] at k2
  have hIH : I.ownBlock ≠ some w.heap.size := fun e => by have := ownsRow_lt HI.out _ e; omega
  have hRH : R.ownBlock ≠ some w.heap.size := fun e => by have := ownsRow_lt HR.out _ e; omega
  have hst0 : Hid (St base I R W W.drew.drew I R n n ids refs) := by
    have hb : ∀ g, g < w.heap.size → g ≠ d → W.heap[g]? = w.heap[g]? := fun g hg hne => hK.out.block g hg hne
    refine ⟨((Kept.refl _ W).drew).drew, ?_, ?_, fun g h => .inl h, fun g h => .inl h, Hap.out⟩
    · exact ownsRow_kept HI.out (fun g hg => hb g (ownsRow_lt HI.out g hg) (fun e => hId (e ▸ hg)))
    · exact ownsRow_kept HR.out (fun g hg => hb g (ownsRow_lt HR.out g hg) (fun e => hRd (e ▸ hg)))
  have hS : ∀ (w2 : World) (I' R' : Value) (n1 n2 : Nat) (xs ys : List Value), St base I R W w2 I' R' n1 n2 xs ys → w2.cell? ⟨d, 2, none⟩ = some I ∧ w2.cell? ⟨d, 3, none⟩ = some R ∧ w2.rangeAt w.heap.size 0 X :=
    fun w2 I' R' n1 n2 xs ys h => h.reads HdW.out HNW.out hId hRd hIH hRH
  have hS0 : W.drew.drew.cell? ⟨d, 2, none⟩ = some I ∧ W.drew.drew.cell? ⟨d, 3, none⟩ = some R ∧ W.drew.drew.rangeAt w.heap.size 0 X := hS _ _ _ _ _ _ _ hst0.out
  have HS : Hid (∀ (w2 : World) (I' R' : Value) (n1 n2 : Nat) (xs ys : List Value), St base I R W w2 I' R' n1 n2 xs ys → w2.cell? ⟨d, 2, none⟩ = some I ∧ w2.cell? ⟨d, 3, none⟩ = some R ∧ w2.rangeAt w.heap.size 0 X) := hS
  clear hS
  have hi40 : (Yba.prog.info? 40).map (·.size) = some X.length := by rw [size40, hX]
  refine wp_region_noPanic ?_
  refine region_late (S := fun w' => w'.cell? ⟨d, 2, none⟩ = some I ∧ w'.cell? ⟨d, 3, none⟩ = some R ∧ w'.rangeAt w.heap.size 0 X) (late := fun j => j == 17 || j == 20) (by kernel_rfl) ?_
  refine anyLate_takeW (i := 0) (v := .pointer (some ⟨d, 0, none⟩)) rfl (by kernel_rfl) (by kernel_rfl) (by kernel_rfl) (fun _ _ _ h => h) (.inl ⟨by rfl, fun w _ => by go_simp⟩) ?_
  simp only [Act.put, List.setIfInBounds_toArray, List.set_cons_zero, List.set_cons_succ]
  refine anyLate_takeW (i := 1) (v := .pointer (some ⟨d, 0, none⟩)) rfl (by kernel_rfl) (by kernel_rfl) (by kernel_rfl) (fun _ _ _ h => h) (.inl ⟨by rfl, fun w _ => by go_simp⟩) ?_
  simp only [Act.put, List.setIfInBounds_toArray, List.set_cons_zero, List.set_cons_succ]
  refine anyLate_takeW (i := 2) (v := .pointer (some ⟨d, 0, none⟩)) rfl (by kernel_rfl) (by kernel_rfl) (by kernel_rfl) (fun _ _ _ h => h) (.inl ⟨by rfl, fun w _ => by go_simp⟩) ?_
  simp only [Act.put, List.setIfInBounds_toArray, List.set_cons_zero, List.set_cons_succ]
  refine anyLate_takeW (i := 3) (v := .pointer (some ⟨d, 0, none⟩)) rfl (by kernel_rfl) (by kernel_rfl) (by kernel_rfl) (fun _ _ _ h => h) (.inl ⟨by rfl, fun w _ => by go_simp⟩) ?_
  simp only [Act.put, List.setIfInBounds_toArray, List.set_cons_zero, List.set_cons_succ]
  refine anyLate_takeW (i := 4) (v := .pointer (some ⟨d, 2, none⟩)) rfl (by kernel_rfl) (by kernel_rfl) (by kernel_rfl) (fun _ _ _ h => h) (.inl ⟨by rfl, fun w _ => by go_simp⟩) ?_
  simp only [Act.put, List.setIfInBounds_toArray, List.set_cons_zero, List.set_cons_succ]
  refine anyLate_takeW (i := 9) (v := .pointer (some ⟨d, 0, none⟩)) rfl (by kernel_rfl) (by kernel_rfl) (by kernel_rfl) (fun _ _ _ h => h) (.inl ⟨by rfl, fun w _ => by go_simp⟩) ?_
  simp only [Act.put, List.setIfInBounds_toArray, List.set_cons_zero, List.set_cons_succ]
  refine anyLate_takeW (i := 10) (v := .pointer (some ⟨d, 0, none⟩)) rfl (by kernel_rfl) (by kernel_rfl) (by kernel_rfl) (fun _ _ _ h => h) (.inl ⟨by rfl, fun w _ => by go_simp⟩) ?_
  simp only [Act.put, List.setIfInBounds_toArray, List.set_cons_zero, List.set_cons_succ]
  refine anyLate_takeW (i := 11) (v := .pointer (some ⟨d, 3, none⟩)) rfl (by kernel_rfl) (by kernel_rfl) (by kernel_rfl) (fun _ _ _ h => h) (.inl ⟨by rfl, fun w _ => by go_simp⟩) ?_
  simp only [Act.put, List.setIfInBounds_toArray, List.set_cons_zero, List.set_cons_succ]
  refine anyLate_take (i := 5) (v := I) rfl (by kernel_rfl) (by kernel_rfl) (by kernel_rfl) (fun _ _ _ h => h) rfl (by kernel_rfl) (.inl ⟨by rfl, fun w hSw => by (obtain ⟨s2, s3, _⟩ := hSw; go_simp)⟩) hS0 ?_
  simp only [Act.put, List.setIfInBounds_toArray, List.set_cons_zero, List.set_cons_succ]
  refine anyLate_take (i := 12) (v := R) rfl (by kernel_rfl) (by kernel_rfl) (by kernel_rfl) (fun _ _ _ h => h) rfl (by kernel_rfl) (.inl ⟨by rfl, fun w hSw => by (obtain ⟨s2, s3, _⟩ := hSw; go_simp)⟩) hS0 ?_
  simp only [Act.put, List.setIfInBounds_toArray, List.set_cons_zero, List.set_cons_succ]
  refine anyLate_take (i := 6) (v := .agg X.toArray) rfl (by kernel_rfl) (by kernel_rfl) (by kernel_rfl) (fun _ _ _ h => h) rfl (by kernel_rfl) (.inl ⟨by rfl, fun w' hSw => by (have hl := lc40 hSw.2.2 hX; clear hSw; go_simp)⟩) hS0 ?_
  simp only [Act.put, List.setIfInBounds_toArray, List.set_cons_zero, List.set_cons_succ]
  refine anyLate_ready (rs := [7, 13]) (by kernel_rfl) (by simp) ?_
  refine AllLate.cons rfl (fun K' hK' => ?_) (AllLate.cons rfl (fun K' hK' => ?_) AllLate.nil)
  · refine step_bs57 (X := X) (.tmp 91) rfl rfl (by go_simp) hX hst0.out ?_
    intro L V1 hst h7 hsz7 hbk7
    refine hK'.out _ _ (fun _ _ => HS.out _ _ _ _ _ _ _ hst) ?_
    clear hK'
    simp only [Act.put, List.setIfInBounds_toArray, List.set_cons_zero, List.set_cons_succ]
    have HV1 : Hid _ := hst
    clear hst
    have H7 : Hid _ := h7
    clear h7
    have Hbk7 : Hid _ := hbk7
    clear hbk7
    refine anyLate_ready (rs := [8, 13]) (by kernel_rfl) (by simp) ?_
    refine AllLate.cons rfl (fun K' hK' => ?_) (AllLate.cons rfl (fun K' hK' => ?_) AllLate.nil)
    · refine step_app57 (.tmp 90) (.tmp 92) rfl rfl (by go_simp) (by go_simp) HV1.out H7.out hX HX1.out hnb (by have := hK.out.size; omega) ?_
      intro gI cI' w3 hst hb3
      refine hK'.out _ _ (fun _ _ => HS.out _ _ _ _ _ _ _ hst) ?_
      clear hK'
      simp only [Act.put, List.setIfInBounds_toArray, List.set_cons_zero, List.set_cons_succ]
      have Hw3 : Hid _ := hst
      clear hst
      have Hb3 : Hid _ := hb3
      clear hb3
      refine anyLate_ready (rs := [13]) (by kernel_rfl) (by simp) ?_
      refine AllLate.cons rfl (fun K' hK' => ?_) AllLate.nil
      refine step_bs111 (.const (.int .u32 1)) rfl rfl (by go_simp) Hw3.out ?_
      intro L2 V4 hst h13 hsz13 hbk13
      refine hK'.out _ _ (fun _ _ => HS.out _ _ _ _ _ _ _ hst) ?_
      clear hK'
      simp only [Act.put, List.setIfInBounds_toArray, List.set_cons_zero, List.set_cons_succ]
      have HV4 : Hid _ := hst
      clear hst
      have H13 : Hid _ := h13
      clear h13
      have Hbk13 : Hid _ := hbk13
      clear hbk13
      refine anyLate_ready (rs := [14]) (by kernel_rfl) (by simp) ?_
      refine AllLate.cons rfl (fun K' hK' => ?_) AllLate.nil
      refine step_app111 (.tmp 97) (.tmp 98) rfl rfl (by go_simp) (by go_simp) HV4.out H13.out hnb (by have := hK.out.size; omega) ?_
      intro gR cR' w5 hst5
      refine hK'.out _ _ (fun _ _ => HS.out _ _ _ _ _ _ _ hst5) ?_
      clear hK'
      simp only [Act.put, List.setIfInBounds_toArray, List.set_cons_zero, List.set_cons_succ]
      have Hst5 : Hid _ := hst5
      clear hst5
      clear hS0
      refine anyLate_takeW (i := 15) (v := .pointer (some ⟨d, 0, none⟩)) rfl (by kernel_rfl) (by kernel_rfl) (by kernel_rfl) (fun _ _ _ h => h) (.inl ⟨by rfl, fun w _ => by go_simp⟩) ?_
      simp only [Act.put, List.setIfInBounds_toArray, List.set_cons_zero, List.set_cons_succ]
      refine anyLate_takeW (i := 16) (v := .pointer (some ⟨d, 2, none⟩)) rfl (by kernel_rfl) (by kernel_rfl) (by kernel_rfl) (fun _ _ _ h => h) (.inl ⟨by rfl, fun w _ => by go_simp⟩) ?_
      simp only [Act.put, List.setIfInBounds_toArray, List.set_cons_zero, List.set_cons_succ]
      refine anyLate_ready (rs := [17]) (by kernel_rfl) (by simp) ?_
      refine AllLate.cons rfl (fun K' hK' => ?_) AllLate.nil
      have hd5 : w5.heap[d]? = some (dirObj 1 I R m (.slice af 0 capf)) := (Hst5.out.kept.block d (lt_of_heap HdW.out) (fun h => h.elim hId hRd)).trans HdW.out
      have e2 := dir2 hd5
      have f2 := dirF hd5 2
      have Hd5 : Hid _ := hd5
      clear hd5
      go_simp
      refine hK'.out _ _ (fun h => by simp at h) ?_
      clear hK' e2 f2
      try simp only [Act.put, List.setIfInBounds_toArray, List.set_cons_zero, List.set_cons_succ]
      refine anyLate_takeW (i := 18) (v := .pointer (some ⟨d, 0, none⟩)) rfl (by kernel_rfl) (by kernel_rfl) (by kernel_rfl) (fun _ _ _ h => h) (.inl ⟨by rfl, fun w _ => by go_simp⟩) ?_
      simp only [Act.put, List.setIfInBounds_toArray, List.set_cons_zero, List.set_cons_succ]
      refine anyLate_takeW (i := 19) (v := .pointer (some ⟨d, 3, none⟩)) rfl (by kernel_rfl) (by kernel_rfl) (by kernel_rfl) (fun _ _ _ h => h) (.inl ⟨by rfl, fun w _ => by go_simp⟩) ?_
      simp only [Act.put, List.setIfInBounds_toArray, List.set_cons_zero, List.set_cons_succ]
      refine anyLate_ready (rs := [20]) (by kernel_rfl) (by simp) ?_
      refine AllLate.cons rfl (fun K' hK' => ?_) AllLate.nil
      have hd6 := dir_ids Hd5.out (.slice (some ⟨gI, 0, none⟩) (n + 1) cI')
      have e3 := dir3 hd6
      have f3 := dirF hd6 3
      have Hd6 : Hid _ := hd6
      clear hd6
      go_simp
      refine hK'.out _ _ (fun h => by simp at h) ?_
      clear hK' e3 f3
      refine anyLate_done (by kernel_rfl) ?_ _
      have hd7 := dir_refs Hd6.out (.slice (some ⟨gR, 0, none⟩) (n + 1) cR')
      generalize hU : (w5.setCell ⟨d, 2, none⟩ (.slice (some ⟨gI, 0, none⟩) (n + 1) cI')).setCell ⟨d, 3, none⟩ (.slice (some ⟨gR, 0, none⟩) (n + 1) cR') = U at hd7 ⊢
      have HU : Hid ((w5.setCell ⟨d, 2, none⟩ (.slice (some ⟨gI, 0, none⟩) (n + 1) cI')).setCell ⟨d, 3, none⟩ (.slice (some ⟨gR, 0, none⟩) (n + 1) cR') = U) := hU
      clear hU
      have hbU : ∀ k, k ≠ d → U.heap[k]? = w5.heap[k]? := fun k hk => by rw [← HU.out, Below.heap_setCell _ _ _ _ hk, Below.heap_setCell _ _ _ _ hk]
      have hK5 : Kept (fun k => k = d ∨ k = m ∨ I.ownBlock = some k ∨ R.ownBlock = some k) w w5 :=
        (hK.out.mono (own' := fun k => k = d ∨ k = m ∨ I.ownBlock = some k ∨ R.ownBlock = some k) (fun _ _ h => .inl h)).trans Hst5.out.kept (fun _ _ h => .inr (.inr h))
      have hKU : Hid (Kept (fun k => k = d ∨ k = m ∨ I.ownBlock = some k ∨ R.ownBlock = some k) w U) := by
        rw [← HU.out]
        exact (hK5.setCell ⟨d, 2, none⟩ (fun _ => .inl rfl) _).setCell ⟨d, 3, none⟩ (fun _ => .inl rfl) _
      have ltW := hK.out.size
      have ltWN := lt_of_heap HNW.out
      have hgId : gI ≠ d := fun e => by
        rcases Hst5.out.srcI gI rfl with h | h
        · exact hId (e ▸ h)
        · omega
      have hgRd : gR ≠ d := fun e => by
        rcases Hst5.out.srcR gR rfl with h | h
        · exact hRd (e ▸ h)
        · omega
      have hgIm : gI ≠ m := fun e => by
        rcases Hst5.out.srcI gI rfl with h | h
        · exact hIm (e ▸ h)
        · have := ownsMap_lt Ho.out; simp at this; omega
      have hgRm : gR ≠ m := fun e => by
        rcases Hst5.out.srcR gR rfl with h | h
        · exact hRm (e ▸ h)
        · have := ownsMap_lt Ho.out; simp at this; omega
      have hNU : U.heap[w.heap.size]? = some (.cells X.toArray 40 (0, 0)) :=
        (hbU _ (by omega)).trans ((Hst5.out.kept.block _ ltWN (fun h => h.elim hIH hRH)).trans HNW.out)
      have hoU : U.drew.ownsMap Yba.prog 40 (plainElem Yba.prog 102) m N D :=
        ownsMap_heap Ho.out ((hbU m hdm).trans (Hst5.out.kept.block m (ownsMap_lt Ho.out) (fun h => h.elim hIm hRm)))
      have hrI : U.ownsRow base 40 64 (.slice (some ⟨gI, 0, none⟩) (n + 1) cI') (n + 1) (ids ++ X) := ownsRow_kept Hst5.out.rI (fun g hg => hbU g (by rw [own_slice g hg]; exact hgId))
      have hrR : U.ownsRow base 102 1 (.slice (some ⟨gR, 0, none⟩) (n + 1) cR') (n + 1) (refs ++ [.int .u32 1]) := ownsRow_kept Hst5.out.rR (fun g hg => hbU g (by rw [own_slice g hg]; exact hgRd))
      have u0 := dir0 hd7
      have u4 := dir4 hd7
      have uf := dirF hd7 0
      have hl : (loadCells ⟨w.heap.size, 0, none⟩ 64).run Yba.prog U.drew = .ok X.toArray U.drew :=
        lc40_block (w := U.drew) (t := 40) (fr := (0, 0)) hNU hX
      have hwi : (Lit.int .u32 (n : Int)).wf = true := by
        simp [Lit.wf, IntKind.min, IntKind.max, IntKind.bits, IntKind.signed]; omega
      obtain ⟨w1, hmu, hown1, hturn⟩ := hoU.store keyed40 Yba.underlying112 hN hkey (plainElem_int Yba.underlying102 hwi)
      have hb1 : ∀ k, k < U.heap.size → k ≠ m → w1.heap[k]? = U.heap[k]? := fun k hk hne => hturn.grown.block k hk (fun e => hne (Option.some.inj e))
      have hd1 : w1.heap[d]? = some (dirObj 1 (.slice (some ⟨gI, 0, none⟩) (n + 1) cI') (.slice (some ⟨gR, 0, none⟩) (n + 1) cR') m (.slice af 0 capf)) := (hb1 d (lt_of_heap hd7) (fun e => hdm e.symm)).trans hd7
      have hrI1 : Hid (w1.ownsRow base 40 64 (.slice (some ⟨gI, 0, none⟩) (n + 1) cI') (n + 1) (ids ++ X)) := ownsRow_kept hrI (fun g hg => hb1 g (ownsRow_lt hrI g hg) (by rw [own_slice g hg]; exact hgIm))
      have hrR1 : Hid (w1.ownsRow base 102 1 (.slice (some ⟨gR, 0, none⟩) (n + 1) cR') (n + 1) (refs ++ [.int .u32 1])) := ownsRow_kept hrR (fun g hg => hb1 g (ownsRow_lt hrR g hg) (by rw [own_slice g hg]; exact hgRm))
      have hK2 : Hid (Kept (fun k => k = d ∨ k = m ∨ I.ownBlock = some k ∨ R.ownBlock = some k) w w1) :=
        Kept.grown hKU.out.drew hturn.grown (fun k e _ => .inr (.inl (Option.some.inj e).symm))
      have Hd1 : Hid _ := hd1
      have Ho1 : Hid (w1.ownsMap Yba.prog 40 (plainElem Yba.prog 102) m (N + 1) (D.put kl (.lit (.int .u32 n)))) := hown1
      clear hd7 hNU hoU hturn hb1 hd1 hown1 hrI hrR hbU hK5 k0 k2 k3 k4 k5 hKU
      refine NoPanic.normal ?_
      go_wp2
      refine wp_region_still_tail 6 (by kernel_rfl) (by kernel_rfl) ?_
      simp only [List.take_succ_cons, List.take_zero, List.drop_succ_cons, List.drop_zero]
      change wpStill _ _ U.drew (fun a' => wpList _ _ _ _ a' U.drew) _ _
      repeat still_step
      refine wpStill_nil ?_
      go_wp2
      refine leaves_cons (f := 33) (args := #[.pointer (some ⟨d, 0, none⟩)]) (by simp) (by simp [go_sem]) ?_
      refine (unlock_deferred Yba.muLib ⟨d, 0, none⟩ .returning _ (dir0 Hd1.out) (dirF Hd1.out 0)).mono ?_
      rintro e u' w'' ⟨rfl, rfl, rfl⟩
      have hbT : ∀ k, k ≠ d → (w1.setCell ⟨d, 0, none⟩ (.int .i32 0)).heap[k]? = w1.heap[k]? := fun k hk => Below.heap_setCell _ _ _ _ hk
      refine ⟨_, results_tmp rfl _ _ _, rfl, gI, cI', gR, cR', dir_lock Hd1.out 0, ?_, ?_, ?_, ?_, ?_, ?_, ?_⟩
      · exact ownsRow_kept hrI1.out (fun g hg => hbT g (by rw [own_slice g hg]; exact hgId))
      · exact ownsRow_kept hrR1.out (fun g hg => hbT g (by rw [own_slice g hg]; exact hgRd))
      · exact ownsMap_heap Ho1.out (hbT m hdm)
      · exact (Hst5.out.srcI gI rfl).imp id (fun h => by omega)
      · exact (Hst5.out.srcR gR rfl).imp id (fun h => by omega)
      · exact fun e => Hst5.out.apart gI rfl (by rw [e]; rfl)
      · exact hK2.out.setCell ⟨d, 0, none⟩ (fun _ => .inl rfl) _
    · refine step_bs111 (.const (.int .u32 1)) rfl rfl (by go_simp) HV1.out ?_
      intro L2 V2 hst h13 hsz13 hbk13
      refine hK'.out _ _ (fun _ _ => HS.out _ _ _ _ _ _ _ hst) ?_
      clear hK'
      simp only [Act.put, List.setIfInBounds_toArray, List.set_cons_zero, List.set_cons_succ]
      have HV2 : Hid _ := hst
      clear hst
      have H13 : Hid _ := h13
      clear h13
      have Hbk13 : Hid _ := hbk13
      clear hbk13
      have H7' : Hid _ := (Hbk13.out _ (lt_of_heap H7.out)).trans H7.out
      clear H7
      have H7 : Hid _ := H7'.out
      clear H7'
      have hlt := lt_of_heap H13.out
      have hne : some L2 ≠ I.ownBlock := fun e => by have := ownsRow_lt HV1.out.rI _ e.symm; omega
      refine anyLate_ready (rs := [8]) (by kernel_rfl) (by simp) ?_
      refine AllLate.cons rfl (fun K' hK' => ?_) AllLate.nil
      refine step_app57 (.tmp 90) (.tmp 92) rfl rfl (by go_simp) (by go_simp) HV2.out H7.out hX HX1.out hnb (by have := hK.out.size; omega) ?_
      intro gI cI' w3 hst hb3
      refine hK'.out _ _ (fun _ _ => HS.out _ _ _ _ _ _ _ hst) ?_
      clear hK'
      simp only [Act.put, List.setIfInBounds_toArray, List.set_cons_zero, List.set_cons_succ]
      have Hw3 : Hid _ := hst
      clear hst
      have Hb3 : Hid _ := hb3
      clear hb3
      have H13' : Hid _ := (Hb3.out L2 hlt hne).trans H13.out
      clear H13
      have H13 : Hid _ := H13'.out
      clear H13'
      refine anyLate_ready (rs := [14]) (by kernel_rfl) (by simp) ?_
      refine AllLate.cons rfl (fun K' hK' => ?_) AllLate.nil
      refine step_app111 (.tmp 97) (.tmp 98) rfl rfl (by go_simp) (by go_simp) Hw3.out H13.out hnb (by have := hK.out.size; omega) ?_
      intro gR cR' w5 hst5
      refine hK'.out _ _ (fun _ _ => HS.out _ _ _ _ _ _ _ hst5) ?_
      clear hK'
      simp only [Act.put, List.setIfInBounds_toArray, List.set_cons_zero, List.set_cons_succ]
      have Hst5 : Hid _ := hst5
      clear hst5
      clear hS0
      refine anyLate_takeW (i := 15) (v := .pointer (some ⟨d, 0, none⟩)) rfl (by kernel_rfl) (by kernel_rfl) (by kernel_rfl) (fun _ _ _ h => h) (.inl ⟨by rfl, fun w _ => by go_simp⟩) ?_
      simp only [Act.put, List.setIfInBounds_toArray, List.set_cons_zero, List.set_cons_succ]
      refine anyLate_takeW (i := 16) (v := .pointer (some ⟨d, 2, none⟩)) rfl (by kernel_rfl) (by kernel_rfl) (by kernel_rfl) (fun _ _ _ h => h) (.inl ⟨by rfl, fun w _ => by go_simp⟩) ?_
      simp only [Act.put, List.setIfInBounds_toArray, List.set_cons_zero, List.set_cons_succ]
      refine anyLate_ready (rs := [17]) (by kernel_rfl) (by simp) ?_
      refine AllLate.cons rfl (fun K' hK' => ?_) AllLate.nil
      have hd5 : w5.heap[d]? = some (dirObj 1 I R m (.slice af 0 capf)) := (Hst5.out.kept.block d (lt_of_heap HdW.out) (fun h => h.elim hId hRd)).trans HdW.out
      have e2 := dir2 hd5
      have f2 := dirF hd5 2
      have Hd5 : Hid _ := hd5
      clear hd5
      go_simp
      refine hK'.out _ _ (fun h => by simp at h) ?_
      clear hK' e2 f2
      try simp only [Act.put, List.setIfInBounds_toArray, List.set_cons_zero, List.set_cons_succ]
      refine anyLate_takeW (i := 18) (v := .pointer (some ⟨d, 0, none⟩)) rfl (by kernel_rfl) (by kernel_rfl) (by kernel_rfl) (fun _ _ _ h => h) (.inl ⟨by rfl, fun w _ => by go_simp⟩) ?_
      simp only [Act.put, List.setIfInBounds_toArray, List.set_cons_zero, List.set_cons_succ]
      refine anyLate_takeW (i := 19) (v := .pointer (some ⟨d, 3, none⟩)) rfl (by kernel_rfl) (by kernel_rfl) (by kernel_rfl) (fun _ _ _ h => h) (.inl ⟨by rfl, fun w _ => by go_simp⟩) ?_
      simp only [Act.put, List.setIfInBounds_toArray, List.set_cons_zero, List.set_cons_succ]
      refine anyLate_ready (rs := [20]) (by kernel_rfl) (by simp) ?_
      refine AllLate.cons rfl (fun K' hK' => ?_) AllLate.nil
      have hd6 := dir_ids Hd5.out (.slice (some ⟨gI, 0, none⟩) (n + 1) cI')
      have e3 := dir3 hd6
      have f3 := dirF hd6 3
      have Hd6 : Hid _ := hd6
      clear hd6
      go_simp
      refine hK'.out _ _ (fun h => by simp at h) ?_
      clear hK' e3 f3
      refine anyLate_done (by kernel_rfl) ?_ _
      have hd7 := dir_refs Hd6.out (.slice (some ⟨gR, 0, none⟩) (n + 1) cR')
      generalize hU : (w5.setCell ⟨d, 2, none⟩ (.slice (some ⟨gI, 0, none⟩) (n + 1) cI')).setCell ⟨d, 3, none⟩ (.slice (some ⟨gR, 0, none⟩) (n + 1) cR') = U at hd7 ⊢
      have HU : Hid ((w5.setCell ⟨d, 2, none⟩ (.slice (some ⟨gI, 0, none⟩) (n + 1) cI')).setCell ⟨d, 3, none⟩ (.slice (some ⟨gR, 0, none⟩) (n + 1) cR') = U) := hU
      clear hU
      have hbU : ∀ k, k ≠ d → U.heap[k]? = w5.heap[k]? := fun k hk => by rw [← HU.out, Below.heap_setCell _ _ _ _ hk, Below.heap_setCell _ _ _ _ hk]
      have hK5 : Kept (fun k => k = d ∨ k = m ∨ I.ownBlock = some k ∨ R.ownBlock = some k) w w5 :=
        (hK.out.mono (own' := fun k => k = d ∨ k = m ∨ I.ownBlock = some k ∨ R.ownBlock = some k) (fun _ _ h => .inl h)).trans Hst5.out.kept (fun _ _ h => .inr (.inr h))
      have hKU : Hid (Kept (fun k => k = d ∨ k = m ∨ I.ownBlock = some k ∨ R.ownBlock = some k) w U) := by
        rw [← HU.out]
        exact (hK5.setCell ⟨d, 2, none⟩ (fun _ => .inl rfl) _).setCell ⟨d, 3, none⟩ (fun _ => .inl rfl) _
      have ltW := hK.out.size
      have ltWN := lt_of_heap HNW.out
      have hgId : gI ≠ d := fun e => by
        rcases Hst5.out.srcI gI rfl with h | h
        · exact hId (e ▸ h)
        · omega
      have hgRd : gR ≠ d := fun e => by
        rcases Hst5.out.srcR gR rfl with h | h
        · exact hRd (e ▸ h)
        · omega
      have hgIm : gI ≠ m := fun e => by
        rcases Hst5.out.srcI gI rfl with h | h
        · exact hIm (e ▸ h)
        · have := ownsMap_lt Ho.out; simp at this; omega
      have hgRm : gR ≠ m := fun e => by
        rcases Hst5.out.srcR gR rfl with h | h
        · exact hRm (e ▸ h)
        · have := ownsMap_lt Ho.out; simp at this; omega
      have hNU : U.heap[w.heap.size]? = some (.cells X.toArray 40 (0, 0)) :=
        (hbU _ (by omega)).trans ((Hst5.out.kept.block _ ltWN (fun h => h.elim hIH hRH)).trans HNW.out)
      have hoU : U.drew.ownsMap Yba.prog 40 (plainElem Yba.prog 102) m N D :=
        ownsMap_heap Ho.out ((hbU m hdm).trans (Hst5.out.kept.block m (ownsMap_lt Ho.out) (fun h => h.elim hIm hRm)))
      have hrI : U.ownsRow base 40 64 (.slice (some ⟨gI, 0, none⟩) (n + 1) cI') (n + 1) (ids ++ X) := ownsRow_kept Hst5.out.rI (fun g hg => hbU g (by rw [own_slice g hg]; exact hgId))
      have hrR : U.ownsRow base 102 1 (.slice (some ⟨gR, 0, none⟩) (n + 1) cR') (n + 1) (refs ++ [.int .u32 1]) := ownsRow_kept Hst5.out.rR (fun g hg => hbU g (by rw [own_slice g hg]; exact hgRd))
      have u0 := dir0 hd7
      have u4 := dir4 hd7
      have uf := dirF hd7 0
      have hl : (loadCells ⟨w.heap.size, 0, none⟩ 64).run Yba.prog U.drew = .ok X.toArray U.drew :=
        lc40_block (w := U.drew) (t := 40) (fr := (0, 0)) hNU hX
      have hwi : (Lit.int .u32 (n : Int)).wf = true := by
        simp [Lit.wf, IntKind.min, IntKind.max, IntKind.bits, IntKind.signed]; omega
      obtain ⟨w1, hmu, hown1, hturn⟩ := hoU.store keyed40 Yba.underlying112 hN hkey (plainElem_int Yba.underlying102 hwi)
      have hb1 : ∀ k, k < U.heap.size → k ≠ m → w1.heap[k]? = U.heap[k]? := fun k hk hne => hturn.grown.block k hk (fun e => hne (Option.some.inj e))
      have hd1 : w1.heap[d]? = some (dirObj 1 (.slice (some ⟨gI, 0, none⟩) (n + 1) cI') (.slice (some ⟨gR, 0, none⟩) (n + 1) cR') m (.slice af 0 capf)) := (hb1 d (lt_of_heap hd7) (fun e => hdm e.symm)).trans hd7
      have hrI1 : Hid (w1.ownsRow base 40 64 (.slice (some ⟨gI, 0, none⟩) (n + 1) cI') (n + 1) (ids ++ X)) := ownsRow_kept hrI (fun g hg => hb1 g (ownsRow_lt hrI g hg) (by rw [own_slice g hg]; exact hgIm))
      have hrR1 : Hid (w1.ownsRow base 102 1 (.slice (some ⟨gR, 0, none⟩) (n + 1) cR') (n + 1) (refs ++ [.int .u32 1])) := ownsRow_kept hrR (fun g hg => hb1 g (ownsRow_lt hrR g hg) (by rw [own_slice g hg]; exact hgRm))
      have hK2 : Hid (Kept (fun k => k = d ∨ k = m ∨ I.ownBlock = some k ∨ R.ownBlock = some k) w w1) :=
        Kept.grown hKU.out.drew hturn.grown (fun k e _ => .inr (.inl (Option.some.inj e).symm))
      have Hd1 : Hid _ := hd1
      have Ho1 : Hid (w1.ownsMap Yba.prog 40 (plainElem Yba.prog 102) m (N + 1) (D.put kl (.lit (.int .u32 n)))) := hown1
      clear hd7 hNU hoU hturn hb1 hd1 hown1 hrI hrR hbU hK5 k0 k2 k3 k4 k5 hKU
      refine NoPanic.normal ?_
      go_wp2
      refine wp_region_still_tail 6 (by kernel_rfl) (by kernel_rfl) ?_
      simp only [List.take_succ_cons, List.take_zero, List.drop_succ_cons, List.drop_zero]
      change wpStill _ _ U.drew (fun a' => wpList _ _ _ _ a' U.drew) _ _
      repeat still_step
      refine wpStill_nil ?_
      go_wp2
      refine leaves_cons (f := 33) (args := #[.pointer (some ⟨d, 0, none⟩)]) (by simp) (by simp [go_sem]) ?_
      refine (unlock_deferred Yba.muLib ⟨d, 0, none⟩ .returning _ (dir0 Hd1.out) (dirF Hd1.out 0)).mono ?_
      rintro e u' w'' ⟨rfl, rfl, rfl⟩
      have hbT : ∀ k, k ≠ d → (w1.setCell ⟨d, 0, none⟩ (.int .i32 0)).heap[k]? = w1.heap[k]? := fun k hk => Below.heap_setCell _ _ _ _ hk
      refine ⟨_, results_tmp rfl _ _ _, rfl, gI, cI', gR, cR', dir_lock Hd1.out 0, ?_, ?_, ?_, ?_, ?_, ?_, ?_⟩
      · exact ownsRow_kept hrI1.out (fun g hg => hbT g (by rw [own_slice g hg]; exact hgId))
      · exact ownsRow_kept hrR1.out (fun g hg => hbT g (by rw [own_slice g hg]; exact hgRd))
      · exact ownsMap_heap Ho1.out (hbT m hdm)
      · exact (Hst5.out.srcI gI rfl).imp id (fun h => by omega)
      · exact (Hst5.out.srcR gR rfl).imp id (fun h => by omega)
      · exact fun e => Hst5.out.apart gI rfl (by rw [e]; rfl)
      · exact hK2.out.setCell ⟨d, 0, none⟩ (fun _ => .inl rfl) _
  · refine step_bs111 (.const (.int .u32 1)) rfl rfl (by go_simp) hst0.out ?_
    intro L2 V1 hst h13 hsz13 hbk13
    refine hK'.out _ _ (fun _ _ => HS.out _ _ _ _ _ _ _ hst) ?_
    clear hK'
    simp only [Act.put, List.setIfInBounds_toArray, List.set_cons_zero, List.set_cons_succ]
    have HV1 : Hid _ := hst
    clear hst
    have H13 : Hid _ := h13
    clear h13
    have Hbk13 : Hid _ := hbk13
    clear hbk13
    have hne : some L2 ≠ I.ownBlock := fun e => by have := ownsRow_lt hst0.out.rI _ e.symm; omega
    refine anyLate_ready (rs := [7]) (by kernel_rfl) (by simp) ?_
    refine AllLate.cons rfl (fun K' hK' => ?_) AllLate.nil
    refine step_bs57 (X := X) (.tmp 91) rfl rfl (by go_simp) hX HV1.out ?_
    intro L V2 hst h7 hsz7 hbk7
    refine hK'.out _ _ (fun _ _ => HS.out _ _ _ _ _ _ _ hst) ?_
    clear hK'
    simp only [Act.put, List.setIfInBounds_toArray, List.set_cons_zero, List.set_cons_succ]
    have HV2 : Hid _ := hst
    clear hst
    have H7 : Hid _ := h7
    clear h7
    have Hbk7 : Hid _ := hbk7
    clear hbk7
    have H13' : Hid _ := (Hbk7.out _ (lt_of_heap H13.out)).trans H13.out
    clear H13
    have H13 : Hid _ := H13'.out
    clear H13'
    have hlt := lt_of_heap H13.out
    refine anyLate_ready (rs := [8]) (by kernel_rfl) (by simp) ?_
    refine AllLate.cons rfl (fun K' hK' => ?_) AllLate.nil
    refine step_app57 (.tmp 90) (.tmp 92) rfl rfl (by go_simp) (by go_simp) HV2.out H7.out hX HX1.out hnb (by have := hK.out.size; omega) ?_
    intro gI cI' w3 hst hb3
    refine hK'.out _ _ (fun _ _ => HS.out _ _ _ _ _ _ _ hst) ?_
    clear hK'
    simp only [Act.put, List.setIfInBounds_toArray, List.set_cons_zero, List.set_cons_succ]
    have Hw3 : Hid _ := hst
    clear hst
    have Hb3 : Hid _ := hb3
    clear hb3
    have H13' : Hid _ := (Hb3.out L2 hlt hne).trans H13.out
    clear H13
    have H13 : Hid _ := H13'.out
    clear H13'
    refine anyLate_ready (rs := [14]) (by kernel_rfl) (by simp) ?_
    refine AllLate.cons rfl (fun K' hK' => ?_) AllLate.nil
    refine step_app111 (.tmp 97) (.tmp 98) rfl rfl (by go_simp) (by go_simp) Hw3.out H13.out hnb (by have := hK.out.size; omega) ?_
    intro gR cR' w5 hst5
    refine hK'.out _ _ (fun _ _ => HS.out _ _ _ _ _ _ _ hst5) ?_
    clear hK'
    simp only [Act.put, List.setIfInBounds_toArray, List.set_cons_zero, List.set_cons_succ]
    have Hst5 : Hid _ := hst5
    clear hst5
    clear hS0
    refine anyLate_takeW (i := 15) (v := .pointer (some ⟨d, 0, none⟩)) rfl (by kernel_rfl) (by kernel_rfl) (by kernel_rfl) (fun _ _ _ h => h) (.inl ⟨by rfl, fun w _ => by go_simp⟩) ?_
    simp only [Act.put, List.setIfInBounds_toArray, List.set_cons_zero, List.set_cons_succ]
    refine anyLate_takeW (i := 16) (v := .pointer (some ⟨d, 2, none⟩)) rfl (by kernel_rfl) (by kernel_rfl) (by kernel_rfl) (fun _ _ _ h => h) (.inl ⟨by rfl, fun w _ => by go_simp⟩) ?_
    simp only [Act.put, List.setIfInBounds_toArray, List.set_cons_zero, List.set_cons_succ]
    refine anyLate_ready (rs := [17]) (by kernel_rfl) (by simp) ?_
    refine AllLate.cons rfl (fun K' hK' => ?_) AllLate.nil
    have hd5 : w5.heap[d]? = some (dirObj 1 I R m (.slice af 0 capf)) := (Hst5.out.kept.block d (lt_of_heap HdW.out) (fun h => h.elim hId hRd)).trans HdW.out
    have e2 := dir2 hd5
    have f2 := dirF hd5 2
    have Hd5 : Hid _ := hd5
    clear hd5
    go_simp
    refine hK'.out _ _ (fun h => by simp at h) ?_
    clear hK' e2 f2
    try simp only [Act.put, List.setIfInBounds_toArray, List.set_cons_zero, List.set_cons_succ]
    refine anyLate_takeW (i := 18) (v := .pointer (some ⟨d, 0, none⟩)) rfl (by kernel_rfl) (by kernel_rfl) (by kernel_rfl) (fun _ _ _ h => h) (.inl ⟨by rfl, fun w _ => by go_simp⟩) ?_
    simp only [Act.put, List.setIfInBounds_toArray, List.set_cons_zero, List.set_cons_succ]
    refine anyLate_takeW (i := 19) (v := .pointer (some ⟨d, 3, none⟩)) rfl (by kernel_rfl) (by kernel_rfl) (by kernel_rfl) (fun _ _ _ h => h) (.inl ⟨by rfl, fun w _ => by go_simp⟩) ?_
    simp only [Act.put, List.setIfInBounds_toArray, List.set_cons_zero, List.set_cons_succ]
    refine anyLate_ready (rs := [20]) (by kernel_rfl) (by simp) ?_
    refine AllLate.cons rfl (fun K' hK' => ?_) AllLate.nil
    have hd6 := dir_ids Hd5.out (.slice (some ⟨gI, 0, none⟩) (n + 1) cI')
    have e3 := dir3 hd6
    have f3 := dirF hd6 3
    have Hd6 : Hid _ := hd6
    clear hd6
    go_simp
    refine hK'.out _ _ (fun h => by simp at h) ?_
    clear hK' e3 f3
    refine anyLate_done (by kernel_rfl) ?_ _
    have hd7 := dir_refs Hd6.out (.slice (some ⟨gR, 0, none⟩) (n + 1) cR')
    generalize hU : (w5.setCell ⟨d, 2, none⟩ (.slice (some ⟨gI, 0, none⟩) (n + 1) cI')).setCell ⟨d, 3, none⟩ (.slice (some ⟨gR, 0, none⟩) (n + 1) cR') = U at hd7 ⊢
    have HU : Hid ((w5.setCell ⟨d, 2, none⟩ (.slice (some ⟨gI, 0, none⟩) (n + 1) cI')).setCell ⟨d, 3, none⟩ (.slice (some ⟨gR, 0, none⟩) (n + 1) cR') = U) := hU
    clear hU
    have hbU : ∀ k, k ≠ d → U.heap[k]? = w5.heap[k]? := fun k hk => by rw [← HU.out, Below.heap_setCell _ _ _ _ hk, Below.heap_setCell _ _ _ _ hk]
    have hK5 : Kept (fun k => k = d ∨ k = m ∨ I.ownBlock = some k ∨ R.ownBlock = some k) w w5 :=
      (hK.out.mono (own' := fun k => k = d ∨ k = m ∨ I.ownBlock = some k ∨ R.ownBlock = some k) (fun _ _ h => .inl h)).trans Hst5.out.kept (fun _ _ h => .inr (.inr h))
    have hKU : Hid (Kept (fun k => k = d ∨ k = m ∨ I.ownBlock = some k ∨ R.ownBlock = some k) w U) := by
      rw [← HU.out]
      exact (hK5.setCell ⟨d, 2, none⟩ (fun _ => .inl rfl) _).setCell ⟨d, 3, none⟩ (fun _ => .inl rfl) _
    have ltW := hK.out.size
    have ltWN := lt_of_heap HNW.out
    have hgId : gI ≠ d := fun e => by
      rcases Hst5.out.srcI gI rfl with h | h
      · exact hId (e ▸ h)
      · omega
    have hgRd : gR ≠ d := fun e => by
      rcases Hst5.out.srcR gR rfl with h | h
      · exact hRd (e ▸ h)
      · omega
    have hgIm : gI ≠ m := fun e => by
      rcases Hst5.out.srcI gI rfl with h | h
      · exact hIm (e ▸ h)
      · have := ownsMap_lt Ho.out; simp at this; omega
    have hgRm : gR ≠ m := fun e => by
      rcases Hst5.out.srcR gR rfl with h | h
      · exact hRm (e ▸ h)
      · have := ownsMap_lt Ho.out; simp at this; omega
    have hNU : U.heap[w.heap.size]? = some (.cells X.toArray 40 (0, 0)) :=
      (hbU _ (by omega)).trans ((Hst5.out.kept.block _ ltWN (fun h => h.elim hIH hRH)).trans HNW.out)
    have hoU : U.drew.ownsMap Yba.prog 40 (plainElem Yba.prog 102) m N D :=
      ownsMap_heap Ho.out ((hbU m hdm).trans (Hst5.out.kept.block m (ownsMap_lt Ho.out) (fun h => h.elim hIm hRm)))
    have hrI : U.ownsRow base 40 64 (.slice (some ⟨gI, 0, none⟩) (n + 1) cI') (n + 1) (ids ++ X) := ownsRow_kept Hst5.out.rI (fun g hg => hbU g (by rw [own_slice g hg]; exact hgId))
    have hrR : U.ownsRow base 102 1 (.slice (some ⟨gR, 0, none⟩) (n + 1) cR') (n + 1) (refs ++ [.int .u32 1]) := ownsRow_kept Hst5.out.rR (fun g hg => hbU g (by rw [own_slice g hg]; exact hgRd))
    have u0 := dir0 hd7
    have u4 := dir4 hd7
    have uf := dirF hd7 0
    have hl : (loadCells ⟨w.heap.size, 0, none⟩ 64).run Yba.prog U.drew = .ok X.toArray U.drew :=
      lc40_block (w := U.drew) (t := 40) (fr := (0, 0)) hNU hX
    have hwi : (Lit.int .u32 (n : Int)).wf = true := by
      simp [Lit.wf, IntKind.min, IntKind.max, IntKind.bits, IntKind.signed]; omega
    obtain ⟨w1, hmu, hown1, hturn⟩ := hoU.store keyed40 Yba.underlying112 hN hkey (plainElem_int Yba.underlying102 hwi)
    have hb1 : ∀ k, k < U.heap.size → k ≠ m → w1.heap[k]? = U.heap[k]? := fun k hk hne => hturn.grown.block k hk (fun e => hne (Option.some.inj e))
    have hd1 : w1.heap[d]? = some (dirObj 1 (.slice (some ⟨gI, 0, none⟩) (n + 1) cI') (.slice (some ⟨gR, 0, none⟩) (n + 1) cR') m (.slice af 0 capf)) := (hb1 d (lt_of_heap hd7) (fun e => hdm e.symm)).trans hd7
    have hrI1 : Hid (w1.ownsRow base 40 64 (.slice (some ⟨gI, 0, none⟩) (n + 1) cI') (n + 1) (ids ++ X)) := ownsRow_kept hrI (fun g hg => hb1 g (ownsRow_lt hrI g hg) (by rw [own_slice g hg]; exact hgIm))
    have hrR1 : Hid (w1.ownsRow base 102 1 (.slice (some ⟨gR, 0, none⟩) (n + 1) cR') (n + 1) (refs ++ [.int .u32 1])) := ownsRow_kept hrR (fun g hg => hb1 g (ownsRow_lt hrR g hg) (by rw [own_slice g hg]; exact hgRm))
    have hK2 : Hid (Kept (fun k => k = d ∨ k = m ∨ I.ownBlock = some k ∨ R.ownBlock = some k) w w1) :=
      Kept.grown hKU.out.drew hturn.grown (fun k e _ => .inr (.inl (Option.some.inj e).symm))
    have Hd1 : Hid _ := hd1
    have Ho1 : Hid (w1.ownsMap Yba.prog 40 (plainElem Yba.prog 102) m (N + 1) (D.put kl (.lit (.int .u32 n)))) := hown1
    clear hd7 hNU hoU hturn hb1 hd1 hown1 hrI hrR hbU hK5 k0 k2 k3 k4 k5 hKU
    refine NoPanic.normal ?_
    go_wp2
    refine wp_region_still_tail 6 (by kernel_rfl) (by kernel_rfl) ?_
    simp only [List.take_succ_cons, List.take_zero, List.drop_succ_cons, List.drop_zero]
    change wpStill _ _ U.drew (fun a' => wpList _ _ _ _ a' U.drew) _ _
    repeat still_step
    refine wpStill_nil ?_
    go_wp2
    refine leaves_cons (f := 33) (args := #[.pointer (some ⟨d, 0, none⟩)]) (by simp) (by simp [go_sem]) ?_
    refine (unlock_deferred Yba.muLib ⟨d, 0, none⟩ .returning _ (dir0 Hd1.out) (dirF Hd1.out 0)).mono ?_
    rintro e u' w'' ⟨rfl, rfl, rfl⟩
    have hbT : ∀ k, k ≠ d → (w1.setCell ⟨d, 0, none⟩ (.int .i32 0)).heap[k]? = w1.heap[k]? := fun k hk => Below.heap_setCell _ _ _ _ hk
    refine ⟨_, results_tmp rfl _ _ _, rfl, gI, cI', gR, cR', dir_lock Hd1.out 0, ?_, ?_, ?_, ?_, ?_, ?_, ?_⟩
    · exact ownsRow_kept hrI1.out (fun g hg => hbT g (by rw [own_slice g hg]; exact hgId))
    · exact ownsRow_kept hrR1.out (fun g hg => hbT g (by rw [own_slice g hg]; exact hgRd))
    · exact ownsMap_heap Ho1.out (hbT m hdm)
    · exact (Hst5.out.srcI gI rfl).imp id (fun h => by omega)
    · exact (Hst5.out.srcR gR rfl).imp id (fun h => by omega)
    · exact fun e => Hst5.out.apart gI rfl (by rw [e]; rfl)
    · exact hK2.out.setCell ⟨d, 0, none⟩ (fun _ => .inl rfl) _
end Go.Proofs.Ybulkamjs
