/- The node of law A: its clock, its expire, its Stats. -/
import Derived.Test.YbulkamjsExp
namespace Go.Proofs.Ybulkamjs
open Go.RowKit Go.Maps Go.WideMaps
set_option linter.unusedSimpArgs false
set_option linter.unusedVariables false

/-- The clock: it counts its calls and says t. -/
theorem clock (cb nb t : Nat) (c : Int) (w : World) (hc : w.heap[cb]? = some (.cells #[.int .i64 c] 3 (0, 0))) (hn : w.heap[nb]? = some (.cells #[.int .u64 t, .int .i64 0, .pointer none] 28 (0, 0))) (c0 : 0 ≤ c) (c1 : c < 100) :
    Calls Yba.prog 13 #[.pointer (some ⟨cb, 0, none⟩), .pointer (some ⟨nb, 0, none⟩)] w fun e w' => e = .returned (.agg #[.int .u64 t, .int .i64 0, .pointer none]) ∧ w'.heap[cb]? = some (.cells #[.int .i64 (c + 1)] 3 (0, 0)) ∧ Kept (fun k => k = cb) w w' := by
  have hne : nb ≠ cb := blk_ne hn hc (by decide)
  have hcl := lt_of_heap hc
  have hnl := lt_of_heap hn
  obtain ⟨W, hW⟩ : ∃ W, W = w.alloc (.cells #[.int .u64 0, .int .i64 0, .pointer none] 28 (0, 0)) := ⟨_, rfl⟩
  have hB : Below w.heap.size w W := by rw [hW]; exact (Below.refl _ _).alloc (Nat.le_refl _) _
  have hcW : W.heap[cb]? = some (.cells #[.int .i64 c] 3 (0, 0)) := (hB.block cb hcl).trans hc
  have hnW : W.heap[nb]? = some (.cells #[.int .u64 t, .int .i64 0, .pointer none] 28 (0, 0)) := (hB.block nb hnl).trans hn
  have hrW : W.heap[w.heap.size]? = some (.cells #[.int .u64 0, .int .i64 0, .pointer none] 28 (0, 0)) := by rw [hW]; exact (MapKept.heap_alloc _ _).1
  have k0 : W.cell? ⟨cb, 0, none⟩ = some (.int .i64 c) := by rw [cell_of_row W cb 0 _ 3 (0, 0) hcW]; rfl
  have f0 : W.frozen? ⟨cb, 0, none⟩ = false := by simp [World.frozen?, hcW]
  have hc2 := heap_setCell_same W cb 0 _ 3 (.int .i64 (c + 1)) hcW
  have hn2 : (W.setCell ⟨cb, 0, none⟩ (.int .i64 (c + 1))).heap[nb]? = some (.cells #[.int .u64 t, .int .i64 0, .pointer none] 28 (0, 0)) := (Below.heap_setCell _ _ _ _ (fun e => hne e)).trans hnW
  have hr2 : (W.setCell ⟨cb, 0, none⟩ (.int .i64 (c + 1))).heap[w.heap.size]? = some (.cells #[.int .u64 0, .int .i64 0, .pointer none] 28 (0, 0)) := (Below.heap_setCell _ _ _ _ (fun e => by have e' : w.heap.size = cb := e; omega)).trans hrW
  have HK2 : Hid (Kept (fun k => k = cb) w (W.setCell ⟨cb, 0, none⟩ (.int .i64 (c + 1)))) := Kept.setCell ((Kept.refl (fun k => k = cb) w).below' hB) ⟨cb, 0, none⟩ (fun _ => rfl) _
  obtain ⟨W2, hW2⟩ : ∃ W2, W2 = W.setCell ⟨cb, 0, none⟩ (.int .i64 (c + 1)) := ⟨_, rfl⟩
  rw [← hW2] at hc2 hn2 hr2 HK2
  have y0 : W2.cell? ⟨nb, 0, none⟩ = some (.int .u64 t) := by rw [cell_of_row _ _ 0 _ 28 (0, 0) hn2]; rfl
  have y1 : W2.cell? ⟨nb, 1, none⟩ = some (.int .i64 0) := by rw [cell_of_row _ _ 1 _ 28 (0, 0) hn2]; rfl
  have y2 : W2.cell? ⟨nb, 2, none⟩ = some (.pointer none) := by rw [cell_of_row _ _ 2 _ 28 (0, 0) hn2]; rfl
  have r0 : W2.cell? ⟨w.heap.size, 0, none⟩ = some (.int .u64 0) := by rw [cell_of_row _ _ 0 _ 28 (0, 0) hr2]; rfl
  have r1 : W2.cell? ⟨w.heap.size, 1, none⟩ = some (.int .i64 0) := by rw [cell_of_row _ _ 1 _ 28 (0, 0) hr2]; rfl
  have r2 : W2.cell? ⟨w.heap.size, 2, none⟩ = some (.pointer none) := by rw [cell_of_row _ _ 2 _ 28 (0, 0) hr2]; rfl
  have rf : ∀ i, W2.frozen? ⟨w.heap.size, i, none⟩ = false := fun i => by simp [World.frozen?, hr2]
  have HW2 : Hid (W.setCell ⟨cb, 0, none⟩ (.int .i64 (c + 1)) = W2) := hW2.symm
  have HW : Hid (w.alloc (.cells #[.int .u64 0, .int .i64 0, .pointer none] 28 (0, 0)) = W) := hW.symm
  have Hc2 : Hid (W2.heap[cb]? = some (.cells #[.int .i64 (c + 1)] 3 (0, 0))) := hc2
  have hcs : cb ≠ w.heap.size := by omega
  clear hW hW2 hc2 hn2 hr2 hcW hnW hrW hB hc hn
  go_enter Yba.func13, Yba.ntmps13
  go_upto_region 1 with (fail)
  rw [HW.out]
  go_upto_region 2 with (fail)
  rw [HW2.out]
  go_wp2
  refine bodyPost_ret (v := .agg #[.int .u64 t, .int .i64 0, .pointer none]) (by simp [results, Yba.results13, go_sem, rf, r0, r1, r2]) rfl ⟨rfl, ?_, ?_⟩
  · rw [Below.heap_setCell _ _ _ _ (fun e => hcs e), Below.heap_setCell _ _ _ _ (fun e => hcs e), Below.heap_setCell _ _ _ _ (fun e => hcs e)]
    exact Hc2.out
  · exact Kept.setCell (Kept.setCell (Kept.setCell HK2.out ⟨w.heap.size, 0, none⟩ (fun h => absurd h (Nat.lt_irrefl _)) _) ⟨w.heap.size, 1, none⟩ (fun h => absurd h (Nat.lt_irrefl _)) _) ⟨w.heap.size, 2, none⟩ (fun h => absurd h (Nat.lt_irrefl _)) _

section
variable {X Xq : Nat → Array Value} {key ix sl sz keyq nu f fq : Nat → Nat} {w w' : World} {s bk mv mk cap n l bkq mn mp capq m : Nat} {cp bys ch : Int}
theorem St.keepO (h : St X key ix sl sz w s bk mv mk cap n cp bys ch f) (hb : ∀ k, StO sl s bk mv mk n f k → w'.heap[k]? = w.heap[k]?) : St X key ix sl sz w' s bk mv mk cap n cp bys ch f := by
  obtain ⟨N, D, hm, h1, h2⟩ := h.val
  obtain ⟨N', D', hm', h1'⟩ := h.byk
  obtain ⟨qa, ho, hqa⟩ := h.obj
  exact ⟨⟨qa, (hb s (.inl rfl)).trans ho, hqa⟩, h.qu.move (fun hn0 => hb bk (.inr (.inl ⟨hn0, rfl⟩))) (fun k hk => hb _ (.inr (.inr (.inr (.inr ⟨k, hk, .inl rfl⟩))))), h.heap, h.item, h.ixi, ⟨N, D, ownsMap_heap hm (hb mv (.inr (.inr (.inl rfl)))), h1, h2⟩,
    ⟨N', D', ownsMap_heap hm' (hb mk (.inr (.inr (.inr (.inl rfl))))), h1'⟩, fun k hk => ⟨(hb _ (.inr (.inr (.inr (.inr ⟨k, hk, .inr rfl⟩))))).trans (h.sls k hk).1, (h.sls k hk).2⟩, h.sli, h.mm, h.cap⟩
theorem Lk.keepO (h : Lk Xq keyq nu w l bkq mn mp capq m fq) (hb : ∀ k, LkO l bkq mn mp m fq k → w'.heap[k]? = w.heap[k]?) : Lk Xq keyq nu w' l bkq mn mp capq m fq := by
  obtain ⟨N, D, hm, h1, h2⟩ := h.num
  obtain ⟨qa, ho, hqa⟩ := h.obj
  exact ⟨⟨qa, (hb l (.inl rfl)).trans ho, hqa⟩, h.qu.move (fun hn0 => hb bkq (.inr (.inl ⟨hn0, rfl⟩))) (fun k hk => hb _ (.inr (.inr (.inr (.inr ⟨k, hk, rfl⟩))))), h.heap, h.item, h.nui, ⟨N, D, ownsMap_heap hm (hb mn (.inr (.inr (.inl rfl)))), h1, h2⟩,
    h.pend.move (hb mp (.inr (.inr (.inr (.inl rfl))))), h.mm, h.cap⟩
theorem St.not (h : St X key ix sl sz w s bk mv mk cap n cp bys ch f) {k : Nat} {C : Array Value} {t : TypeId} {fr : Nat × Nat} (hk : w.heap[k]? = some (.cells C t fr)) (h1 : t ≠ 38) (h2 : t ≠ 47) (h3 : t ≠ 53) : ¬ StO sl s bk mv mk n f k := by
  obtain ⟨N, D, hm, _⟩ := h.val
  obtain ⟨N', D', hm', _⟩ := h.byk
  obtain ⟨C0, ho⟩ := h.obj2
  rintro (e | ⟨h0, e⟩ | e | e | ⟨i, hi, e | e⟩)
  · exact blk_ne hk ho h1 e
  · obtain ⟨C', hC, _⟩ := h.qu.blk h0
    exact blk_ne hk hC h2 e
  · exact ownsMap_ne hm hk e.symm
  · exact ownsMap_ne hm' hk e.symm
  · exact blk_ne hk (h.qu.it i hi) h3 e
  · exact blk_ne hk (h.sls i hi).1 h2 e
theorem Lk.not (h : Lk Xq keyq nu w l bkq mn mp capq m fq) {k : Nat} {C : Array Value} {t : TypeId} {fr : Nat × Nat} (hk : w.heap[k]? = some (.cells C t fr)) (h1 : t ≠ 69) (h2 : t ≠ 56) (h3 : t ≠ 63) : ¬ LkO l bkq mn mp m fq k := by
  obtain ⟨N, D, hm, _⟩ := h.num
  obtain ⟨C0, ho⟩ := h.obj2
  rintro (e | ⟨h0, e⟩ | e | e | ⟨i, hi, e⟩)
  · exact blk_ne hk ho h1 e
  · obtain ⟨C', hC, _⟩ := h.qu.blk h0
    exact blk_ne hk hC h2 e
  · exact ownsMap_ne hm hk e.symm
  · exact h.pend.ne hk e.symm
  · exact blk_ne hk (h.qu.it i hi) h3 e
theorem St.notMap (h : St X key ix sl sz w s bk mv mk cap n cp bys ch f) {k : Nat} {es : Array MapEntry} {cl : Nat} (hk : w.heap[k]? = some (.map es cl)) (h1 : k ≠ mv) (h2 : k ≠ mk) : ¬ StO sl s bk mv mk n f k := by
  have key : ∀ {C : Array Value} {t : TypeId} {fr : Nat × Nat}, w.heap[k]? ≠ some (.cells C t fr) := fun e => by rw [hk] at e; cases e
  obtain ⟨C0, ho⟩ := h.obj2
  rintro (e | ⟨h0, e⟩ | e | e | ⟨i, hi, e | e⟩)
  · exact key (e ▸ ho)
  · obtain ⟨C', hC, _⟩ := h.qu.blk h0
    exact key (e ▸ hC)
  · exact h1 e
  · exact h2 e
  · exact key (e ▸ h.qu.it i hi)
  · exact key (e ▸ (h.sls i hi).1)
/-- The lookups' blocks are not the store's. -/
theorem apart (h : St X key ix sl sz w s bk mv mk cap n cp bys ch f) (hl : Lk Xq keyq nu w l bkq mn mp capq m fq) (h1 : mn ≠ mv) (h2 : mn ≠ mk) (h3 : mp ≠ mv) (h4 : mp ≠ mk) : ∀ k, LkO l bkq mn mp m fq k → ¬ StO sl s bk mv mk n f k := by
  obtain ⟨N, D, ⟨es, cl, hm, _⟩, _⟩ := hl.num
  obtain ⟨C0, ho⟩ := hl.obj2
  rintro k (e | ⟨h0, e⟩ | e | e | ⟨i, hi, e⟩)
  · rw [e]; exact h.not ho (by decide) (by decide) (by decide)
  · obtain ⟨C', hC, _⟩ := hl.qu.blk h0
    rw [e]; exact h.not hC (by decide) (by decide) (by decide)
  · rw [e]; exact h.notMap hm h1 h2
  · rw [e]
    rcases hl.pend with ⟨_, hp⟩ | hp
    · exact h.notMap hp h3 h4
    · exact h.notMap hp h3 h4
  · rw [e]; exact h.not (hl.qu.it i hi) (by decide) (by decide) (by decide)
theorem StO.lt (h : St X key ix sl sz w s bk mv mk cap n cp bys ch f) {k : Nat} (hk : StO sl s bk mv mk n f k) : k < w.heap.size := by
  obtain ⟨N, D, hm, _⟩ := h.val
  obtain ⟨N', D', hm', _⟩ := h.byk
  obtain ⟨C0, ho⟩ := h.obj2
  rcases hk with e | ⟨h0, e⟩ | e | e | ⟨i, hi, e | e⟩
  · rw [e]; exact lt_of_heap ho
  · rw [e]; exact h.qu.bk_lt h0
  · rw [e]; exact ownsMap_lt hm
  · rw [e]; exact ownsMap_lt hm'
  · rw [e]; exact h.qu.it_lt hi
  · rw [e]; exact lt_of_heap (h.sls i hi).1
theorem LkO.lt (h : Lk Xq keyq nu w l bkq mn mp capq m fq) {k : Nat} (hk : LkO l bkq mn mp m fq k) : k < w.heap.size := by
  obtain ⟨N, D, hm, _⟩ := h.num
  obtain ⟨C0, ho⟩ := h.obj2
  rcases hk with e | ⟨h0, e⟩ | e | e | ⟨i, hi, e⟩
  · rw [e]; exact lt_of_heap ho
  · rw [e]; exact h.qu.bk_lt h0
  · rw [e]; exact ownsMap_lt hm
  · rw [e]; exact h.pend.lt
  · rw [e]; exact h.qu.it_lt hi
end
end Go.Proofs.Ybulkamjs
