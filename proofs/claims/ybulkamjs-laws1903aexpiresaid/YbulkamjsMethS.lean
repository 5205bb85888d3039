/- The methods of a timedQueue (made by a small program for each of the two element types). -/
import Derived.Test.YbulkamjsQu
namespace Go.Proofs.Ybulkamjs
open Go.RowKit Go.Maps Go.WideMaps
set_option linter.unusedSimpArgs false
set_option linter.unusedVariables false

theorem lenS (a : Option Addr) (n cap : Nat) (w : World) : Calls Yba.prog 107 #[.slice a n cap] w fun e w' => e = .returned (.int .i64 n) ∧ w' = w := by
  go_enter Yba.func107, Yba.ntmps107
  go_wp2
  go_ret
  exact ⟨rfl, rfl⟩

set_option maxRecDepth 20000 in
set_option maxHeartbeats 4000000 in
theorem lessS (bk n cap i j : Nat) (X : Nat → Array Value) (key f : Nat → Nat) (w : World) (h : Qu 47 53 134 X key w bk n f) (hi : i < n) (hj : j < n) (hn : n < 100000) :
    Calls Yba.prog 108 #[.slice (some ⟨bk, 0, none⟩) n cap, .int .i64 i, .int .i64 j] w fun e w' => e = .returned (.bool (decide (key (f i) < key (f j)))) ∧ Below w.heap.size w w' := by
  obtain ⟨ki, _, x0, x1, x2⟩ := h.tm i hi
  obtain ⟨kj, _, y0, y1, y2⟩ := h.tm j hj
  have c1 := h.cell hi
  have c2 := h.cell hj
  rw [← h.icell hi (by omega)] at x0 x1 x2
  rw [← h.icell hj (by omega)] at y0 y1 y2
  have HSn : (fun w' : World => w'.cell? ⟨bk, i, none⟩ = some (.pointer (some ⟨f i, 0, none⟩)) ∧ w'.cell? ⟨bk, j, none⟩ = some (.pointer (some ⟨f j, 0, none⟩)) ∧ w'.cell? ⟨f i, 0, none⟩ = some (.int .u64 (key (f i) : Nat)) ∧ w'.cell? ⟨f i, 1, none⟩ = some (.int .i64 0) ∧ w'.cell? ⟨f i, 2, none⟩ = some (.pointer none) ∧
      w'.cell? ⟨f j, 0, none⟩ = some (.int .u64 (key (f j) : Nat)) ∧ w'.cell? ⟨f j, 1, none⟩ = some (.int .i64 0) ∧ w'.cell? ⟨f j, 2, none⟩ = some (.pointer none)) w.drew := ⟨c1, c2, x0, x1, x2, y0, y1, y2⟩
  generalize hk1 : key (f i) = k1 at *
  generalize hk2 : key (f j) = k2 at *
  generalize hg1 : f i = b1 at *
  generalize hg2 : f j = b2 at *
  clear h c1 c2 x0 x1 x2 y0 y1 y2 hk1 hk2 hg1 hg2
  have i1 : (i : Int) < (n : Int) := by omega
  have j1 : (j : Int) < (n : Int) := by omega
  go_enter Yba.func108, Yba.ntmps108
  go_wp2
  refine region_late (S := fun w' : World => w'.cell? ⟨bk, i, none⟩ = some (.pointer (some ⟨b1, 0, none⟩)) ∧ w'.cell? ⟨bk, j, none⟩ = some (.pointer (some ⟨b2, 0, none⟩)) ∧ w'.cell? ⟨b1, 0, none⟩ = some (.int .u64 (k1 : Nat)) ∧ w'.cell? ⟨b1, 1, none⟩ = some (.int .i64 0) ∧ w'.cell? ⟨b1, 2, none⟩ = some (.pointer none) ∧
      w'.cell? ⟨b2, 0, none⟩ = some (.int .u64 (k2 : Nat)) ∧ w'.cell? ⟨b2, 1, none⟩ = some (.int .i64 0) ∧ w'.cell? ⟨b2, 2, none⟩ = some (.pointer none)) (late := fun _ => false) (by kernel_rfl) ?_
  refine anyLate_takeW (i := 0) (v := .slice (some ⟨bk, 0, none⟩) n cap) rfl (by kernel_rfl) (by kernel_rfl) (by kernel_rfl) (fun _ _ _ h => h) (.inl ⟨by kernel_rfl, fun w _ => by go_simp⟩) ?_
  simp only [Act.put, List.setIfInBounds_toArray, List.set_cons_zero, List.set_cons_succ]
  refine anyLate_takeW (i := 1) (v := .int .i64 i) rfl (by kernel_rfl) (by kernel_rfl) (by kernel_rfl) (fun _ _ _ h => h) (.inl ⟨by kernel_rfl, fun w _ => by go_simp⟩) ?_
  simp only [Act.put, List.setIfInBounds_toArray, List.set_cons_zero, List.set_cons_succ]
  refine anyLate_takeW (i := 2) (v := .pointer (some ⟨bk, i, none⟩)) rfl (by kernel_rfl) (by kernel_rfl) (by kernel_rfl) (fun _ _ _ h => h) (.inl ⟨by kernel_rfl, fun w _ => by go_simp⟩) ?_
  simp only [Act.put, List.setIfInBounds_toArray, List.set_cons_zero, List.set_cons_succ]
  refine anyLate_take (i := 3) (v := .pointer (some ⟨b1, 0, none⟩)) rfl (by kernel_rfl) (by kernel_rfl) (by kernel_rfl) (fun _ _ _ h => h) rfl (by kernel_rfl) (.inl ⟨by kernel_rfl, fun w hSw => by (obtain ⟨s1, s2, s3, s4, s5, s6, s7, s8⟩ := hSw; go_simp)⟩) HSn ?_
  simp only [Act.put, List.setIfInBounds_toArray, List.set_cons_zero, List.set_cons_succ]
  refine anyLate_takeW (i := 4) (v := .pointer (some ⟨b1, 0, none⟩)) rfl (by kernel_rfl) (by kernel_rfl) (by kernel_rfl) (fun _ _ _ h => h) (.inl ⟨by kernel_rfl, fun w _ => by go_simp⟩) ?_
  simp only [Act.put, List.setIfInBounds_toArray, List.set_cons_zero, List.set_cons_succ]
  refine anyLate_takeW (i := 5) (v := .pointer (some ⟨b1, 0, none⟩)) rfl (by kernel_rfl) (by kernel_rfl) (by kernel_rfl) (fun _ _ _ h => h) (.inl ⟨by kernel_rfl, fun w _ => by go_simp⟩) ?_
  simp only [Act.put, List.setIfInBounds_toArray, List.set_cons_zero, List.set_cons_succ]
  refine anyLate_take (i := 6) (v := .agg #[.int .u64 k1, .int .i64 0, .pointer none]) rfl (by kernel_rfl) (by kernel_rfl) (by kernel_rfl) (fun _ _ _ h => h) rfl (by kernel_rfl) (.inl ⟨by kernel_rfl, fun w hSw => by (obtain ⟨s1, s2, s3, s4, s5, s6, s7, s8⟩ := hSw; go_simp)⟩) HSn ?_
  simp only [Act.put, List.setIfInBounds_toArray, List.set_cons_zero, List.set_cons_succ]
  refine anyLate_takeW (i := 7) (v := .slice (some ⟨bk, 0, none⟩) n cap) rfl (by kernel_rfl) (by kernel_rfl) (by kernel_rfl) (fun _ _ _ h => h) (.inl ⟨by kernel_rfl, fun w _ => by go_simp⟩) ?_
  simp only [Act.put, List.setIfInBounds_toArray, List.set_cons_zero, List.set_cons_succ]
  refine anyLate_takeW (i := 8) (v := .int .i64 j) rfl (by kernel_rfl) (by kernel_rfl) (by kernel_rfl) (fun _ _ _ h => h) (.inl ⟨by kernel_rfl, fun w _ => by go_simp⟩) ?_
  simp only [Act.put, List.setIfInBounds_toArray, List.set_cons_zero, List.set_cons_succ]
  refine anyLate_takeW (i := 9) (v := .pointer (some ⟨bk, j, none⟩)) rfl (by kernel_rfl) (by kernel_rfl) (by kernel_rfl) (fun _ _ _ h => h) (.inl ⟨by kernel_rfl, fun w _ => by go_simp⟩) ?_
  simp only [Act.put, List.setIfInBounds_toArray, List.set_cons_zero, List.set_cons_succ]
  refine anyLate_take (i := 10) (v := .pointer (some ⟨b2, 0, none⟩)) rfl (by kernel_rfl) (by kernel_rfl) (by kernel_rfl) (fun _ _ _ h => h) rfl (by kernel_rfl) (.inl ⟨by kernel_rfl, fun w hSw => by (obtain ⟨s1, s2, s3, s4, s5, s6, s7, s8⟩ := hSw; go_simp)⟩) HSn ?_
  simp only [Act.put, List.setIfInBounds_toArray, List.set_cons_zero, List.set_cons_succ]
  refine anyLate_takeW (i := 11) (v := .pointer (some ⟨b2, 0, none⟩)) rfl (by kernel_rfl) (by kernel_rfl) (by kernel_rfl) (fun _ _ _ h => h) (.inl ⟨by kernel_rfl, fun w _ => by go_simp⟩) ?_
  simp only [Act.put, List.setIfInBounds_toArray, List.set_cons_zero, List.set_cons_succ]
  refine anyLate_takeW (i := 12) (v := .pointer (some ⟨b2, 0, none⟩)) rfl (by kernel_rfl) (by kernel_rfl) (by kernel_rfl) (fun _ _ _ h => h) (.inl ⟨by kernel_rfl, fun w _ => by go_simp⟩) ?_
  simp only [Act.put, List.setIfInBounds_toArray, List.set_cons_zero, List.set_cons_succ]
  refine anyLate_take (i := 13) (v := .agg #[.int .u64 k2, .int .i64 0, .pointer none]) rfl (by kernel_rfl) (by kernel_rfl) (by kernel_rfl) (fun _ _ _ h => h) rfl (by kernel_rfl) (.inl ⟨by kernel_rfl, fun w hSw => by (obtain ⟨s1, s2, s3, s4, s5, s6, s7, s8⟩ := hSw; go_simp)⟩) HSn ?_
  simp only [Act.put, List.setIfInBounds_toArray, List.set_cons_zero, List.set_cons_succ]
  refine anyLate_ready (rs := [14]) (by kernel_rfl) (by simp) ?_
  refine AllLate.cons rfl (fun K' hK' => ?_) AllLate.nil
  go_simp
  refine Calls.mono (before_eq (k1 : Int) 0 (k2 : Int) 0 _ (by omega) (by omega) (by omega) (by omega)) ?_
  rintro e wn ⟨rfl, hwn⟩
  have hBd : Below w.drew.heap.size w.drew wn := by rw [hwn]; exact ((Below.refl _ _).alloc (Nat.le_refl _) _).alloc (by simp) _
  have HB : Hid (Below w.heap.size w wn) := (Below.refl w.heap.size w).drew.trans hBd
  rw [bef0]
  refine hK'.out _ _ (fun _ hS => ⟨bcell hBd hS.1, bcell hBd hS.2.1, bcell hBd hS.2.2.1, bcell hBd hS.2.2.2.1, bcell hBd hS.2.2.2.2.1, bcell hBd hS.2.2.2.2.2.1, bcell hBd hS.2.2.2.2.2.2.1, bcell hBd hS.2.2.2.2.2.2.2⟩) ?_
  clear hK' hwn hBd HSn
  try simp only [Act.put, List.setIfInBounds_toArray, List.set_cons_zero, List.set_cons_succ]
  refine anyLate_takeW (i := 15) (v := .bool (decide (k1 < k2))) rfl (by kernel_rfl) (by kernel_rfl) (by kernel_rfl) (fun _ _ _ h => h) (.inl ⟨by kernel_rfl, fun w _ => by go_simp⟩) ?_
  simp only [Act.put, List.setIfInBounds_toArray, List.set_cons_zero, List.set_cons_succ, List.getElem_toArray, List.getElem_cons_succ, List.getElem_cons_zero]
  refine anyLate_done (by kernel_rfl) ?_ _
  go_wp2
  go_ret
  exact ⟨rfl, HB.out⟩

set_option maxRecDepth 20000 in
set_option maxHeartbeats 4000000 in
theorem swapS (bk n cap i j : Nat) (X : Nat → Array Value) (key f : Nat → Nat) (w : World) (h : Qu 47 53 134 X key w bk n f) (hi : i < n) (hj : j < n) (hij : i ≠ j) (hn : n < 100000) :
    Calls Yba.prog 109 #[.slice (some ⟨bk, 0, none⟩) n cap, .int .i64 i, .int .i64 j] w fun e w' => e = .returned (.tuple #[]) ∧ Qu 47 53 134 X key w' bk n (sw f i j) ∧ Kept (fun k => k = bk ∨ k = f i ∨ k = f j) w w' := by
  have HQ : Hid (Qu 47 53 134 X key w bk n f) := h
  have c1 := h.cell hi
  have c2 := h.cell hj
  obtain ⟨C, hC, hCn, hCk⟩ := h.blk (by omega)
  have hfij : f i ≠ f j := fun e => hij (h.inj i j hi hj e)
  have HSn : (fun w' : World => w'.cell? ⟨bk, i, none⟩ = some (.pointer (some ⟨f i, 0, none⟩)) ∧ w'.cell? ⟨bk, j, none⟩ = some (.pointer (some ⟨f j, 0, none⟩))) w.drew := ⟨c1, c2⟩
  have HCh : Hid (w.heap[bk]? = some (.cells C 47 (0, 0))) := hC
  have hfr : ∀ o, w.drew.frozen? ⟨bk, o, none⟩ = false := fun o => by
    show w.frozen? ⟨bk, o, none⟩ = false
    simp [World.frozen?, hC]
  have bf1 := hfr i
  have HCk : Hid _ := hCk
  obtain ⟨b1, hb1⟩ : ∃ b, b = f i := ⟨_, rfl⟩
  obtain ⟨b2, hb2⟩ : ∃ b, b = f j := ⟨_, rfl⟩
  rw [← hb1, ← hb2] at HSn hfij
  have Hb1 : Hid (b1 = f i) := hb1
  have Hb2 : Hid (b2 = f j) := hb2
  have i1 : (i : Int) < (n : Int) := by omega
  have j1 : (j : Int) < (n : Int) := by omega
  clear h c1 c2 hC hCk hfr hb1 hb2
  go_enter Yba.func109, Yba.ntmps109
  go_wp2
  refine region_late (S := fun w' : World => w'.cell? ⟨bk, i, none⟩ = some (.pointer (some ⟨b1, 0, none⟩)) ∧ w'.cell? ⟨bk, j, none⟩ = some (.pointer (some ⟨b2, 0, none⟩))) (late := fun i => i == 13 || i == 15) (by kernel_rfl) ?_
  refine anyLate_takeW (i := 0) (v := .slice (some ⟨bk, 0, none⟩) n cap) rfl (by kernel_rfl) (by kernel_rfl) (by kernel_rfl) (fun _ _ _ h => h) (.inl ⟨by kernel_rfl, fun w _ => by go_simp⟩) ?_
  simp only [Act.put, List.setIfInBounds_toArray, List.set_cons_zero, List.set_cons_succ]
  refine anyLate_takeW (i := 1) (v := .int .i64 i) rfl (by kernel_rfl) (by kernel_rfl) (by kernel_rfl) (fun _ _ _ h => h) (.inl ⟨by kernel_rfl, fun w _ => by go_simp⟩) ?_
  simp only [Act.put, List.setIfInBounds_toArray, List.set_cons_zero, List.set_cons_succ]
  refine anyLate_takeW (i := 2) (v := .slice (some ⟨bk, 0, none⟩) n cap) rfl (by kernel_rfl) (by kernel_rfl) (by kernel_rfl) (fun _ _ _ h => h) (.inl ⟨by kernel_rfl, fun w _ => by go_simp⟩) ?_
  simp only [Act.put, List.setIfInBounds_toArray, List.set_cons_zero, List.set_cons_succ]
  refine anyLate_takeW (i := 3) (v := .int .i64 j) rfl (by kernel_rfl) (by kernel_rfl) (by kernel_rfl) (fun _ _ _ h => h) (.inl ⟨by kernel_rfl, fun w _ => by go_simp⟩) ?_
  simp only [Act.put, List.setIfInBounds_toArray, List.set_cons_zero, List.set_cons_succ]
  refine anyLate_takeW (i := 4) (v := .slice (some ⟨bk, 0, none⟩) n cap) rfl (by kernel_rfl) (by kernel_rfl) (by kernel_rfl) (fun _ _ _ h => h) (.inl ⟨by kernel_rfl, fun w _ => by go_simp⟩) ?_
  simp only [Act.put, List.setIfInBounds_toArray, List.set_cons_zero, List.set_cons_succ]
  refine anyLate_takeW (i := 5) (v := .int .i64 j) rfl (by kernel_rfl) (by kernel_rfl) (by kernel_rfl) (fun _ _ _ h => h) (.inl ⟨by kernel_rfl, fun w _ => by go_simp⟩) ?_
  simp only [Act.put, List.setIfInBounds_toArray, List.set_cons_zero, List.set_cons_succ]
  refine anyLate_takeW (i := 6) (v := .pointer (some ⟨bk, j, none⟩)) rfl (by kernel_rfl) (by kernel_rfl) (by kernel_rfl) (fun _ _ _ h => h) (.inl ⟨by kernel_rfl, fun w _ => by go_simp⟩) ?_
  simp only [Act.put, List.setIfInBounds_toArray, List.set_cons_zero, List.set_cons_succ]
  refine anyLate_take (i := 7) (v := .pointer (some ⟨b2, 0, none⟩)) rfl (by kernel_rfl) (by kernel_rfl) (by kernel_rfl) (fun _ _ _ h => h) rfl (by kernel_rfl) (.inl ⟨by kernel_rfl, fun w hSw => by (obtain ⟨s1, s2⟩ := hSw; go_simp)⟩) HSn ?_
  simp only [Act.put, List.setIfInBounds_toArray, List.set_cons_zero, List.set_cons_succ]
  refine anyLate_takeW (i := 8) (v := .slice (some ⟨bk, 0, none⟩) n cap) rfl (by kernel_rfl) (by kernel_rfl) (by kernel_rfl) (fun _ _ _ h => h) (.inl ⟨by kernel_rfl, fun w _ => by go_simp⟩) ?_
  simp only [Act.put, List.setIfInBounds_toArray, List.set_cons_zero, List.set_cons_succ]
  refine anyLate_takeW (i := 9) (v := .int .i64 i) rfl (by kernel_rfl) (by kernel_rfl) (by kernel_rfl) (fun _ _ _ h => h) (.inl ⟨by kernel_rfl, fun w _ => by go_simp⟩) ?_
  simp only [Act.put, List.setIfInBounds_toArray, List.set_cons_zero, List.set_cons_succ]
  refine anyLate_takeW (i := 10) (v := .pointer (some ⟨bk, i, none⟩)) rfl (by kernel_rfl) (by kernel_rfl) (by kernel_rfl) (fun _ _ _ h => h) (.inl ⟨by kernel_rfl, fun w _ => by go_simp⟩) ?_
  simp only [Act.put, List.setIfInBounds_toArray, List.set_cons_zero, List.set_cons_succ]
  refine anyLate_take (i := 11) (v := .pointer (some ⟨b1, 0, none⟩)) rfl (by kernel_rfl) (by kernel_rfl) (by kernel_rfl) (fun _ _ _ h => h) rfl (by kernel_rfl) (.inl ⟨by kernel_rfl, fun w hSw => by (obtain ⟨s1, s2⟩ := hSw; go_simp)⟩) HSn ?_
  simp only [Act.put, List.setIfInBounds_toArray, List.set_cons_zero, List.set_cons_succ]
  refine anyLate_takeW (i := 12) (v := .pointer (some ⟨bk, i, none⟩)) rfl (by kernel_rfl) (by kernel_rfl) (by kernel_rfl) (fun _ _ _ h => h) (.inl ⟨by kernel_rfl, fun w _ => by go_simp⟩) ?_
  simp only [Act.put, List.setIfInBounds_toArray, List.set_cons_zero, List.set_cons_succ]
  have cI := HSn.1
  have cJ := HSn.2
  refine anyLate_ready (rs := [13]) (by kernel_rfl) (by simp) ?_
  refine AllLate.cons rfl (fun K' hK' => ?_) AllLate.nil
  go_simp
  refine hK'.out _ _ (fun h => by simp at h) ?_
  clear hK' HSn cI
  have hC1 := heap_setCell_same w bk i C 47 (.pointer (some ⟨b2, 0, none⟩)) HCh.out
  have cJ1 : (w.setCell ⟨bk, i, none⟩ (.pointer (some ⟨b2, 0, none⟩))).drew.cell? ⟨bk, j, none⟩ = some (.pointer (some ⟨b2, 0, none⟩)) := (set_ne w bk i j _ HCh.out (fun e => hij e.symm)).trans cJ
  have bf2 : (w.setCell ⟨bk, i, none⟩ (.pointer (some ⟨b2, 0, none⟩))).drew.frozen? ⟨bk, j, none⟩ = false := by
    show (w.setCell ⟨bk, i, none⟩ (.pointer (some ⟨b2, 0, none⟩))).frozen? ⟨bk, j, none⟩ = false
    simp only [World.frozen?, hC1]; simp
  have Hw1 : Hid (Kept (fun k => k = bk) w (w.setCell ⟨bk, i, none⟩ (.pointer (some ⟨b2, 0, none⟩))).drew) := Kept.drew (Kept.setCell (Kept.refl (fun k => k = bk) w) ⟨bk, i, none⟩ (fun _ => rfl) _)
  have HC1 : Hid ((w.setCell ⟨bk, i, none⟩ (.pointer (some ⟨b2, 0, none⟩))).drew.heap[bk]? = some (.cells (C.setIfInBounds i (.pointer (some ⟨b2, 0, none⟩))) 47 (0, 0))) := hC1
  clear hC1 bf1 cJ
  generalize (w.setCell ⟨bk, i, none⟩ (.pointer (some ⟨b2, 0, none⟩))).drew = wa at cJ1 bf2 Hw1 HC1 ⊢
  refine anyLate_takeW (i := 14) (v := .pointer (some ⟨bk, j, none⟩)) rfl (by kernel_rfl) (by kernel_rfl) (by kernel_rfl) (fun _ _ _ h => h) (.inl ⟨by kernel_rfl, fun w _ => by go_simp⟩) ?_
  simp only [Act.put, List.setIfInBounds_toArray, List.set_cons_zero, List.set_cons_succ]
  refine anyLate_ready (rs := [15]) (by kernel_rfl) (by simp) ?_
  refine AllLate.cons rfl (fun K' hK' => ?_) AllLate.nil
  go_simp
  refine hK'.out _ _ (fun h => by simp at h) ?_
  clear hK'
  refine anyLate_done (by kernel_rfl) ?_ _
  have HCb : Hid ((wa.setCell ⟨bk, j, none⟩ (.pointer (some ⟨b1, 0, none⟩))).heap[bk]? = some (.cells ((C.setIfInBounds i (.pointer (some ⟨b2, 0, none⟩))).setIfInBounds j (.pointer (some ⟨b1, 0, none⟩))) 47 (0, 0))) := heap_setCell_same wa bk j _ 47 _ HC1.out
  have HKb : Hid (Kept (fun k => k = bk) w (wa.setCell ⟨bk, j, none⟩ (.pointer (some ⟨b1, 0, none⟩)))) := Kept.setCell Hw1.out ⟨bk, j, none⟩ (fun _ => rfl) _
  clear cJ1 bf2 Hw1 HC1
  generalize wa.setCell ⟨bk, j, none⟩ (.pointer (some ⟨b1, 0, none⟩)) = wb at HCb HKb ⊢
  have cI : wb.cell? ⟨bk, i, none⟩ = some (.pointer (some ⟨b2, 0, none⟩)) := by
    rw [cell_of_row wb _ _ _ 47 (0, 0) HCb.out, Array.getElem?_setIfInBounds, if_neg (fun e => hij e.symm), Array.getElem?_setIfInBounds, if_pos rfl, if_pos (by omega)]
  have cJ : wb.cell? ⟨bk, j, none⟩ = some (.pointer (some ⟨b1, 0, none⟩)) := by
    rw [cell_of_row wb _ _ _ 47 (0, 0) HCb.out, Array.getElem?_setIfInBounds, if_pos rfl, if_pos (by simp; omega)]
  have h1 : wb.heap[b1]? = some (.cells ((X b1).setIfInBounds 134 (.int .i64 (i : Nat))) 53 (0, 0)) := by
    have := HQ.out.it i hi
    rw [← Hb1.out] at this
    exact (HKb.out.block b1 (lt_of_heap this) (by rw [Hb1.out]; exact HQ.out.ne i hi)).trans this
  have h2 : wb.heap[b2]? = some (.cells ((X b2).setIfInBounds 134 (.int .i64 (j : Nat))) 53 (0, 0)) := by
    have := HQ.out.it j hj
    rw [← Hb2.out] at this
    exact (HKb.out.block b2 (lt_of_heap this) (by rw [Hb2.out]; exact HQ.out.ne j hj)).trans this
  have s1 : 134 < (X b1).size := by rw [Hb1.out]; exact (HQ.out.tm i hi).2.1
  have s2 : 134 < (X b2).size := by rw [Hb2.out]; exact (HQ.out.tm j hj).2.1
  have HSn : (fun w' : World => w'.cell? ⟨bk, i, none⟩ = some (.pointer (some ⟨b2, 0, none⟩)) ∧ w'.cell? ⟨bk, j, none⟩ = some (.pointer (some ⟨b1, 0, none⟩))) wb.drew := ⟨cI, cJ⟩
  have e2 : wb.drew.cell? ⟨b2, 134, none⟩ = some (.int .i64 (j : Nat)) := by
    show wb.cell? ⟨b2, 134, none⟩ = _
    rw [cell_of_row wb _ _ _ 53 (0, 0) h2, Array.getElem?_setIfInBounds, if_pos rfl, if_pos s2]
  have f2 : wb.drew.frozen? ⟨b2, 134, none⟩ = false := by
    show wb.frozen? ⟨b2, 134, none⟩ = false
    simp [World.frozen?, h2]
  have G1 : Hid (wb.heap[b1]? = some (.cells ((X b1).setIfInBounds 134 (.int .i64 (i : Nat))) 53 (0, 0))) := h1
  have G2 : Hid (wb.heap[b2]? = some (.cells ((X b2).setIfInBounds 134 (.int .i64 (j : Nat))) 53 (0, 0))) := h2
  clear cI cJ h1 h2
  go_wp2
  refine region_late (S := fun w' : World => w'.cell? ⟨bk, i, none⟩ = some (.pointer (some ⟨b2, 0, none⟩)) ∧ w'.cell? ⟨bk, j, none⟩ = some (.pointer (some ⟨b1, 0, none⟩))) (late := fun i => i == 12 || i == 15) (by kernel_rfl) ?_
  refine anyLate_takeW (i := 0) (v := .slice (some ⟨bk, 0, none⟩) n cap) rfl (by kernel_rfl) (by kernel_rfl) (by kernel_rfl) (fun _ _ _ h => h) (.inl ⟨by kernel_rfl, fun w _ => by go_simp⟩) ?_
  simp only [Act.put, List.setIfInBounds_toArray, List.set_cons_zero, List.set_cons_succ]
  refine anyLate_takeW (i := 1) (v := .int .i64 i) rfl (by kernel_rfl) (by kernel_rfl) (by kernel_rfl) (fun _ _ _ h => h) (.inl ⟨by kernel_rfl, fun w _ => by go_simp⟩) ?_
  simp only [Act.put, List.setIfInBounds_toArray, List.set_cons_zero, List.set_cons_succ]
  refine anyLate_takeW (i := 2) (v := .pointer (some ⟨bk, i, none⟩)) rfl (by kernel_rfl) (by kernel_rfl) (by kernel_rfl) (fun _ _ _ h => h) (.inl ⟨by kernel_rfl, fun w _ => by go_simp⟩) ?_
  simp only [Act.put, List.setIfInBounds_toArray, List.set_cons_zero, List.set_cons_succ]
  refine anyLate_take (i := 3) (v := .pointer (some ⟨b2, 0, none⟩)) rfl (by kernel_rfl) (by kernel_rfl) (by kernel_rfl) (fun _ _ _ h => h) rfl (by kernel_rfl) (.inl ⟨by kernel_rfl, fun w hSw => by (obtain ⟨s1, s2⟩ := hSw; go_simp)⟩) HSn ?_
  simp only [Act.put, List.setIfInBounds_toArray, List.set_cons_zero, List.set_cons_succ]
  refine anyLate_takeW (i := 4) (v := .slice (some ⟨bk, 0, none⟩) n cap) rfl (by kernel_rfl) (by kernel_rfl) (by kernel_rfl) (fun _ _ _ h => h) (.inl ⟨by kernel_rfl, fun w _ => by go_simp⟩) ?_
  simp only [Act.put, List.setIfInBounds_toArray, List.set_cons_zero, List.set_cons_succ]
  refine anyLate_takeW (i := 5) (v := .int .i64 j) rfl (by kernel_rfl) (by kernel_rfl) (by kernel_rfl) (fun _ _ _ h => h) (.inl ⟨by kernel_rfl, fun w _ => by go_simp⟩) ?_
  simp only [Act.put, List.setIfInBounds_toArray, List.set_cons_zero, List.set_cons_succ]
  refine anyLate_takeW (i := 6) (v := .pointer (some ⟨bk, j, none⟩)) rfl (by kernel_rfl) (by kernel_rfl) (by kernel_rfl) (fun _ _ _ h => h) (.inl ⟨by kernel_rfl, fun w _ => by go_simp⟩) ?_
  simp only [Act.put, List.setIfInBounds_toArray, List.set_cons_zero, List.set_cons_succ]
  refine anyLate_take (i := 7) (v := .pointer (some ⟨b1, 0, none⟩)) rfl (by kernel_rfl) (by kernel_rfl) (by kernel_rfl) (fun _ _ _ h => h) rfl (by kernel_rfl) (.inl ⟨by kernel_rfl, fun w hSw => by (obtain ⟨s1, s2⟩ := hSw; go_simp)⟩) HSn ?_
  simp only [Act.put, List.setIfInBounds_toArray, List.set_cons_zero, List.set_cons_succ]
  refine anyLate_takeW (i := 8) (v := .int .i64 i) rfl (by kernel_rfl) (by kernel_rfl) (by kernel_rfl) (fun _ _ _ h => h) (.inl ⟨by kernel_rfl, fun w _ => by go_simp⟩) ?_
  simp only [Act.put, List.setIfInBounds_toArray, List.set_cons_zero, List.set_cons_succ]
  refine anyLate_takeW (i := 9) (v := .int .i64 j) rfl (by kernel_rfl) (by kernel_rfl) (by kernel_rfl) (fun _ _ _ h => h) (.inl ⟨by kernel_rfl, fun w _ => by go_simp⟩) ?_
  simp only [Act.put, List.setIfInBounds_toArray, List.set_cons_zero, List.set_cons_succ]
  refine anyLate_takeW (i := 10) (v := .pointer (some ⟨b2, 0, none⟩)) rfl (by kernel_rfl) (by kernel_rfl) (by kernel_rfl) (fun _ _ _ h => h) (.inl ⟨by kernel_rfl, fun w _ => by go_simp⟩) ?_
  simp only [Act.put, List.setIfInBounds_toArray, List.set_cons_zero, List.set_cons_succ]
  refine anyLate_takeW (i := 11) (v := .pointer (some ⟨b2, 134, none⟩)) rfl (by kernel_rfl) (by kernel_rfl) (by kernel_rfl) (fun _ _ _ h => h) (.inl ⟨by kernel_rfl, fun w _ => by go_simp⟩) ?_
  simp only [Act.put, List.setIfInBounds_toArray, List.set_cons_zero, List.set_cons_succ]
  refine anyLate_ready (rs := [12]) (by kernel_rfl) (by simp) ?_
  refine AllLate.cons rfl (fun K' hK' => ?_) AllLate.nil
  go_simp
  refine hK'.out _ _ (fun h => by simp at h) ?_
  clear hK' HSn e2 f2
  have HKc : Hid (Kept (fun k => k = bk ∨ k = b2) w (wb.setCell ⟨b2, 134, none⟩ (.int .i64 (i : Nat))).drew) := Kept.drew (Kept.setCell (HKb.out.mono (fun _ _ h => .inl h)) ⟨b2, 134, none⟩ (fun _ => .inr rfl) _)
  have HCc : Hid ((wb.setCell ⟨b2, 134, none⟩ (.int .i64 (i : Nat))).drew.heap[bk]? = some (.cells ((C.setIfInBounds i (.pointer (some ⟨b2, 0, none⟩))).setIfInBounds j (.pointer (some ⟨b1, 0, none⟩))) 47 (0, 0))) :=
    (Below.heap_setCell _ _ _ _ (fun e => by rw [Hb2.out] at e; exact HQ.out.ne j hj e.symm)).trans HCb.out
  have I2 : Hid ((wb.setCell ⟨b2, 134, none⟩ (.int .i64 (i : Nat))).drew.heap[b2]? = some (.cells ((X b2).setIfInBounds 134 (.int .i64 (i : Nat))) 53 (0, 0))) := by
    show (wb.setCell ⟨b2, 134, none⟩ (.int .i64 (i : Nat))).heap[b2]? = _
    rw [heap_setCell_same wb b2 134 _ 53 _ G2.out, Array.setIfInBounds_setIfInBounds]
  have h1 : (wb.setCell ⟨b2, 134, none⟩ (.int .i64 (i : Nat))).drew.heap[b1]? = some (.cells ((X b1).setIfInBounds 134 (.int .i64 (i : Nat))) 53 (0, 0)) :=
    (Below.heap_setCell _ _ _ _ (fun e => hfij e)).trans G1.out
  clear HKb HCb G1 G2
  generalize (wb.setCell ⟨b2, 134, none⟩ (.int .i64 (i : Nat))).drew = wc at HKc HCc I2 h1 ⊢
  have I1 : Hid (wc.heap[b1]? = some (.cells ((X b1).setIfInBounds 134 (.int .i64 (i : Nat))) 53 (0, 0))) := h1
  have e1 : wc.cell? ⟨b1, 134, none⟩ = some (.int .i64 (i : Nat)) := by
    rw [cell_of_row wc _ _ _ 53 (0, 0) h1, Array.getElem?_setIfInBounds, if_pos rfl, if_pos s1]
  have f1 : wc.frozen? ⟨b1, 134, none⟩ = false := by simp [World.frozen?, h1]
  clear h1
  refine anyLate_takeW (i := 13) (v := .pointer (some ⟨b1, 0, none⟩)) rfl (by kernel_rfl) (by kernel_rfl) (by kernel_rfl) (fun _ _ _ h => h) (.inl ⟨by kernel_rfl, fun w _ => by go_simp⟩) ?_
  simp only [Act.put, List.setIfInBounds_toArray, List.set_cons_zero, List.set_cons_succ]
  refine anyLate_takeW (i := 14) (v := .pointer (some ⟨b1, 134, none⟩)) rfl (by kernel_rfl) (by kernel_rfl) (by kernel_rfl) (fun _ _ _ h => h) (.inl ⟨by kernel_rfl, fun w _ => by go_simp⟩) ?_
  simp only [Act.put, List.setIfInBounds_toArray, List.set_cons_zero, List.set_cons_succ]
  refine anyLate_ready (rs := [15]) (by kernel_rfl) (by simp) ?_
  refine AllLate.cons rfl (fun K' hK' => ?_) AllLate.nil
  go_simp
  refine hK'.out _ _ (fun h => by simp at h) ?_
  clear hK'
  refine anyLate_done (by kernel_rfl) ?_ _
  go_wp2
  go_end0
  have hK : Kept (fun k => k = bk ∨ k = b2 ∨ k = b1) w (wc.setCell ⟨b1, 134, none⟩ (.int .i64 (j : Nat))) := Kept.setCell (HKc.out.mono (fun _ _ h => h.elim .inl (fun h => .inr (.inl h)))) ⟨b1, 134, none⟩ (fun _ => .inr (.inr rfl)) _
  refine ⟨rfl, ⟨fun _ => ⟨_, (Below.heap_setCell _ _ _ _ (fun e => by rw [Hb1.out] at e; exact HQ.out.ne i hi e.symm)).trans HCc.out, by simpa using hCn, fun k hk => ?_⟩, fun k hk => ?_, fun k hk => ?_, sw_inj HQ.out.inj hi hj, fun k hk => ?_⟩, hK.mono (fun k _ h => ?_)⟩
  · rw [Array.getElem?_setIfInBounds]
    by_cases h1 : j = k
    · subst h1; rw [if_pos rfl, if_pos (by simp; omega), sw_j, Hb1.out]
    · rw [if_neg h1, Array.getElem?_setIfInBounds]
      by_cases h2 : i = k
      · subst h2; rw [if_pos rfl, if_pos (by omega), sw_i, Hb2.out]
      · rw [if_neg h2, HCk.out k hk, sw_o f (fun e => h2 e.symm) (fun e => h1 e.symm)]
  · by_cases h1 : k = j
    · subst h1
      rw [sw_j, ← Hb1.out, heap_setCell_same wc b1 134 _ 53 _ I1.out, Array.setIfInBounds_setIfInBounds]
    · by_cases h2 : k = i
      · subst h2
        rw [sw_i, ← Hb2.out]
        exact (Below.heap_setCell _ _ _ _ (fun e => hfij e.symm)).trans I2.out
      · rw [sw_o f h2 h1]
        have n1 : f k ≠ b1 := fun e => h2 (HQ.out.inj k i hk hi (e.trans Hb1.out))
        have n2 : f k ≠ b2 := fun e => h1 (HQ.out.inj k j hk hj (e.trans Hb2.out))
        exact (hK.block (f k) (HQ.out.it_lt hk) (fun h => h.elim (HQ.out.ne k hk) (fun h => h.elim n2 n1))).trans (HQ.out.it k hk)
  · obtain ⟨k', hk', e⟩ := sw_in f hi hj k hk
    rw [e]; exact HQ.out.tm k' hk'
  · obtain ⟨k', hk', e⟩ := sw_in f hi hj k hk
    rw [e]; exact HQ.out.ne k' hk'
  · rw [← Hb1.out, ← Hb2.out]
    exact h.elim .inl (fun h => h.elim (fun h => .inr (.inr h)) (fun h => .inr (.inl h)))

set_option maxRecDepth 20000 in
set_option maxHeartbeats 4000000 in
theorem popS (qb qo bk n cap b : Nat) (w : World) (hq : w.cell? ⟨qb, qo, none⟩ = some (.slice (some ⟨bk, 0, none⟩) (n + 1) cap)) (hc : w.cell? ⟨bk, n, none⟩ = some (.pointer (some ⟨b, 0, none⟩))) (f1 : w.frozen? ⟨bk, n, none⟩ = false) (f2 : w.frozen? ⟨qb, qo, none⟩ = false) (hne : qb ≠ bk)
    (hn : n + 1 ≤ cap) (hcap : cap < 9223372036854775808) (hn6 : n < 100000) :
    Calls Yba.prog 129 #[.pointer (some ⟨qb, qo, none⟩)] w fun e w' => e = .returned (.iface 47 (.pointer (some ⟨b, 0, none⟩))) ∧ w' = (w.setCell ⟨bk, n, none⟩ (.pointer none)).setCell ⟨qb, qo, none⟩ (.slice (some ⟨bk, 0, none⟩) n cap) := by
  have e1 : (n : Int) + 1 - 1 = n := by omega
  have g2 : (w.setCell ⟨bk, n, none⟩ (.pointer none)).frozen? ⟨qb, qo, none⟩ = false := by
    rw [← f2]
    simp only [World.frozen?]
    rw [Below.heap_setCell _ _ _ _ (fun e => hne e)]
  have g1 : (w.setCell ⟨bk, n, none⟩ (.pointer none)).cell? ⟨qb, qo, none⟩ = some (.slice (some ⟨bk, 0, none⟩) (n + 1) cap) := by
    rw [← hq]
    simp only [World.cell?]
    rw [Below.heap_setCell _ _ _ _ (fun e => hne e)]
  go_enter Yba.func129, Yba.ntmps129
  go_wp2
  go_ret
  exact ⟨rfl, rfl⟩
end Go.Proofs.Ybulkamjs
