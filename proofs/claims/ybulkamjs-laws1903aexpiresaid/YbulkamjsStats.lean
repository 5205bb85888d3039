/- (*Node).Stats over the node of law A. -/
import Derived.Test.YbulkamjsNode
namespace Go.Proofs.Ybulkamjs
open Go.RowKit Go.Maps Go.WideMaps
set_option linter.unusedSimpArgs false
set_option linter.unusedVariables false

/-- The Stats' five cells. -/
abbrev stv (n : Nat) (bys : Int) (m : Nat) (dr iv : Int) : Array Value := #[.int .i64 (n : Nat), .int .i64 bys, .int .i64 (m : Nat), .int .u64 dr, .int .u64 iv]

set_option maxRecDepth 20000 in
set_option maxHeartbeats 8000000 in
theorem stats (X Xq : Nat → Array Value) (key ix sl sz keyq nu f fq : Nat → Nat) (w : World) (nd s bk mv mk cap n l bkq mn mp capq m cb nb t : Nat) (cp bys ch dr iv c : Int) (A : Array Value)
    (hN : NodeS w nd s l cb nb t A dr iv c) (hS : St X key ix sl sz w s bk mv mk cap n cp bys ch f) (hL : Lk Xq keyq nu w l bkq mn mp capq m fq) (hsep : Sep mv mk mn mp) (hby : bys = sumF sz f n) (hch : 0 ≤ ch ∧ ch < 10000) (hn : n ≤ 1024) (hm : m ≤ 1024) (ht : t < 65536) (hc : 0 ≤ c ∧ c < 100) :
    Calls Yba.prog 14 #[.pointer (some ⟨nd, 0, none⟩)] w fun e w' => ∃ n' bys' ch' f' m' fq', e = .returned (.agg (stv n' bys' m' dr iv)) ∧ NodeS w' nd s l cb nb t A dr iv (c + 1) ∧ Kept (fun k => StO sl s bk mv mk n f k ∨ LkO l bkq mn mp m fq k ∨ k = cb) w w' ∧
      After X Xq key ix sl sz keyq nu s bk mv mk cap n l bkq mn mp capq m t cp bys ch f fq w' n' bys' ch' f' m' fq' := by
  obtain ⟨W0, hW0⟩ : ∃ W, W = w.alloc (.cells #[.int .i64 0, .int .i64 0, .int .i64 0, .int .u64 0, .int .u64 0] 97 (0, 0)) := ⟨_, rfl⟩
  have hB0 : Below w.heap.size w W0 := by rw [hW0]; exact (Below.refl _ _).alloc (Nat.le_refl _) _
  have hrb0 : W0.heap[w.heap.size]? = some (.cells #[.int .i64 0, .int .i64 0, .int .i64 0, .int .u64 0, .int .u64 0] 97 (0, 0)) := by rw [hW0]; exact (MapKept.heap_alloc _ _).1
  have hN0 : NodeS W0 nd s l cb nb t A dr iv c := ⟨(hB0.block nd (lt_of_heap hN.obj)).trans hN.obj, hN.a74, hN.a75, hN.a76, hN.a79, hN.a81, (hB0.block cb (lt_of_heap hN.calls)).trans hN.calls, (hB0.block nb (lt_of_heap hN.now)).trans hN.now⟩
  have hS0 := hS.keep hB0.block
  have hL0 := hL.keep hB0.block
  have HE : Hid _ := nexpire X Xq key ix sl sz keyq nu f fq W0 nd s bk mv mk cap n l bkq mn mp capq m cb nb t cp bys ch dr iv c A hN0 hS0 hL0 hsep hby hch hn hm ht hc
  have HW0 : Hid (w.alloc (.cells #[.int .i64 0, .int .i64 0, .int .i64 0, .int .u64 0, .int .u64 0] 97 (0, 0)) = W0) := hW0.symm
  have HB0 : Hid (Below w.heap.size w W0) := hB0
  have Hr0 : Hid (W0.heap[w.heap.size]? = some (.cells #[.int .i64 0, .int .i64 0, .int .i64 0, .int .u64 0, .int .u64 0] 97 (0, 0)) ∧ ¬ (StO sl s bk mv mk n f w.heap.size ∨ LkO l bkq mn mp m fq w.heap.size ∨ w.heap.size = cb)) := by
    refine ⟨hrb0, ?_⟩
    have h3 := lt_of_heap hN.calls
    rintro (h | h | h)
    · exact hS0.not hrb0 (by decide) (by decide) (by decide) h
    · exact hL0.not hrb0 (by decide) (by decide) (by decide) h
    · omega
  clear hW0 hB0 hrb0 hN0 hS0 hL0 hN hS hL hsep hby hch hc
  go_enter Yba.func14, Yba.ntmps14
  go_upto_region 1 with (fail)
  rw [HW0.out]
  go_wp2_with (fail)
  refine Calls.mono HE.out ?_
  rintro e W1 ⟨rfl, hN1, hK1, n', bys', ch', f', m', fq', hA⟩
  have hr1 : W1.heap[w.heap.size]? = some (.cells #[.int .i64 0, .int .i64 0, .int .i64 0, .int .u64 0, .int .u64 0] 97 (0, 0)) := (hK1.block _ (lt_of_heap Hr0.out.1) Hr0.out.2).trans Hr0.out.1
  have HN1 : Hid (NodeS W1 nd s l cb nb t A dr iv (c + 1)) := hN1
  have HA : Hid (After X Xq key ix sl sz keyq nu s bk mv mk cap n l bkq mn mp capq m t cp bys ch f fq W1 n' bys' ch' f' m' fq') := hA
  have HK1 : Hid (Kept (fun k => StO sl s bk mv mk n f k ∨ LkO l bkq mn mp m fq k ∨ k = cb) w W1) := ((Kept.refl _ w).below' HB0.out).trans hK1 (fun _ _ h => h)
  have d75 : W1.cell? ⟨nd, 75, none⟩ = some (.pointer (some ⟨s, 0, none⟩)) := by rw [cell_of_row W1 nd 75 _ 95 (0, 0) hN1.obj]; exact hN1.a75
  have d76 : W1.cell? ⟨nd, 76, none⟩ = some (.pointer (some ⟨l, 0, none⟩)) := by rw [cell_of_row W1 nd 76 _ 95 (0, 0) hN1.obj]; exact hN1.a76
  have d79 : W1.cell? ⟨nd, 79, none⟩ = some (.int .u64 dr) := by rw [cell_of_row W1 nd 79 _ 95 (0, 0) hN1.obj]; exact hN1.a79
  have d81 : W1.cell? ⟨nd, 81, none⟩ = some (.int .u64 iv) := by rw [cell_of_row W1 nd 81 _ 95 (0, 0) hN1.obj]; exact hN1.a81
  obtain ⟨qa1, ho1, _⟩ := hA.st.obj
  obtain ⟨qb1, hl1, _⟩ := hA.lk.obj
  have s2 : W1.cell? ⟨s, 2, none⟩ = some (.map (some mv)) := st_cell ho1 2
  have s1 : W1.cell? ⟨s, 1, none⟩ = some (.int .i64 bys') := st_cell ho1 1
  have q0 : W1.cell? ⟨l, 0, none⟩ = some (.map (some mn)) := lk_cell hl1 0
  have lv : (Builtin.len_ #[33] 3 #[.map (some mv)]).run Yba.prog W1.drew = .ok (.int .i64 (n' : Nat)) W1.drew := by
    obtain ⟨N, D, hm, h1, _⟩ := hA.st.val
    rw [← h1]; exact hm.drew.len Yba.underlying33 3
  have ln : (Builtin.len_ #[64] 3 #[.map (some mn)]).run Yba.prog W1.drew = .ok (.int .i64 (m' : Nat)) W1.drew := by
    obtain ⟨N, D, hm, h1, _⟩ := hA.lk.num
    rw [← h1]; exact hm.drew.len Yba.underlying64 3
  have rc : ∀ j, W1.cell? ⟨w.heap.size, j, none⟩ = (#[.int .i64 0, .int .i64 0, .int .i64 0, .int .u64 0, .int .u64 0] : Array Value)[j]? := fun j => cell_of_row W1 _ j _ 97 (0, 0) hr1
  have r0 : W1.cell? ⟨w.heap.size, 0, none⟩ = some (.int .i64 0) := rc 0
  have r1 : W1.cell? ⟨w.heap.size, 1, none⟩ = some (.int .i64 0) := rc 1
  have r2 : W1.cell? ⟨w.heap.size, 2, none⟩ = some (.int .i64 0) := rc 2
  have r3 : W1.cell? ⟨w.heap.size, 3, none⟩ = some (.int .u64 0) := rc 3
  have r4 : W1.cell? ⟨w.heap.size, 4, none⟩ = some (.int .u64 0) := rc 4
  have rf : ∀ i, W1.frozen? ⟨w.heap.size, i, none⟩ = false := fun i => by simp [World.frozen?, hr1]
  have Hr1 : Hid _ := hr1
  clear hK1 hN1 hA rc hr1 HE ho1 hl1
  go_wp2
  refine region_late (S := fun w' => w' = W1.drew) (late := fun i => i == 32) (by kernel_rfl) ?_
  refine anyLate_takeW (i := 0) (v := .pointer (some ⟨nd, 0, none⟩)) rfl (by kernel_rfl) (by kernel_rfl) (by kernel_rfl) (fun _ _ _ h => h) (.inl ⟨by kernel_rfl, fun w _ => by go_simp⟩) ?_
  simp only [Act.put, List.setIfInBounds_toArray, List.set_cons_zero, List.set_cons_succ]
  refine anyLate_takeW (i := 1) (v := .pointer (some ⟨nd, 0, none⟩)) rfl (by kernel_rfl) (by kernel_rfl) (by kernel_rfl) (fun _ _ _ h => h) (.inl ⟨by kernel_rfl, fun w _ => by go_simp⟩) ?_
  simp only [Act.put, List.setIfInBounds_toArray, List.set_cons_zero, List.set_cons_succ]
  refine anyLate_takeW (i := 2) (v := .pointer (some ⟨nd, 75, none⟩)) rfl (by kernel_rfl) (by kernel_rfl) (by kernel_rfl) (fun _ _ _ h => h) (.inl ⟨by kernel_rfl, fun w _ => by go_simp⟩) ?_
  simp only [Act.put, List.setIfInBounds_toArray, List.set_cons_zero, List.set_cons_succ]
  refine anyLate_take (i := 3) (v := .pointer (some ⟨s, 0, none⟩)) rfl (by kernel_rfl) (by kernel_rfl) (by kernel_rfl) (fun _ _ _ h => h) rfl (by kernel_rfl) (.inl ⟨by kernel_rfl, fun w hSw => by (subst hSw; go_simp)⟩) rfl ?_
  simp only [Act.put, List.setIfInBounds_toArray, List.set_cons_zero, List.set_cons_succ]
  refine anyLate_takeW (i := 4) (v := .pointer (some ⟨s, 0, none⟩)) rfl (by kernel_rfl) (by kernel_rfl) (by kernel_rfl) (fun _ _ _ h => h) (.inl ⟨by kernel_rfl, fun w _ => by go_simp⟩) ?_
  simp only [Act.put, List.setIfInBounds_toArray, List.set_cons_zero, List.set_cons_succ]
  refine anyLate_takeW (i := 5) (v := .pointer (some ⟨s, 2, none⟩)) rfl (by kernel_rfl) (by kernel_rfl) (by kernel_rfl) (fun _ _ _ h => h) (.inl ⟨by kernel_rfl, fun w _ => by go_simp⟩) ?_
  simp only [Act.put, List.setIfInBounds_toArray, List.set_cons_zero, List.set_cons_succ]
  refine anyLate_take (i := 6) (v := .map (some mv)) rfl (by kernel_rfl) (by kernel_rfl) (by kernel_rfl) (fun _ _ _ h => h) rfl (by kernel_rfl) (.inl ⟨by kernel_rfl, fun w hSw => by (subst hSw; go_simp)⟩) rfl ?_
  simp only [Act.put, List.setIfInBounds_toArray, List.set_cons_zero, List.set_cons_succ]
  refine anyLate_take (i := 7) (v := .int .i64 (n' : Nat)) rfl (by kernel_rfl) (by kernel_rfl) (by kernel_rfl) (fun _ _ _ h => h) rfl (by kernel_rfl) (.inl ⟨by kernel_rfl, fun w hSw => by (subst hSw; go_simp)⟩) rfl ?_
  simp only [Act.put, List.setIfInBounds_toArray, List.set_cons_zero, List.set_cons_succ]
  refine anyLate_takeW (i := 8) (v := .pointer (some ⟨nd, 0, none⟩)) rfl (by kernel_rfl) (by kernel_rfl) (by kernel_rfl) (fun _ _ _ h => h) (.inl ⟨by kernel_rfl, fun w _ => by go_simp⟩) ?_
  simp only [Act.put, List.setIfInBounds_toArray, List.set_cons_zero, List.set_cons_succ]
  refine anyLate_takeW (i := 9) (v := .pointer (some ⟨nd, 0, none⟩)) rfl (by kernel_rfl) (by kernel_rfl) (by kernel_rfl) (fun _ _ _ h => h) (.inl ⟨by kernel_rfl, fun w _ => by go_simp⟩) ?_
  simp only [Act.put, List.setIfInBounds_toArray, List.set_cons_zero, List.set_cons_succ]
  refine anyLate_takeW (i := 10) (v := .pointer (some ⟨nd, 75, none⟩)) rfl (by kernel_rfl) (by kernel_rfl) (by kernel_rfl) (fun _ _ _ h => h) (.inl ⟨by kernel_rfl, fun w _ => by go_simp⟩) ?_
  simp only [Act.put, List.setIfInBounds_toArray, List.set_cons_zero, List.set_cons_succ]
  refine anyLate_take (i := 11) (v := .pointer (some ⟨s, 0, none⟩)) rfl (by kernel_rfl) (by kernel_rfl) (by kernel_rfl) (fun _ _ _ h => h) rfl (by kernel_rfl) (.inl ⟨by kernel_rfl, fun w hSw => by (subst hSw; go_simp)⟩) rfl ?_
  simp only [Act.put, List.setIfInBounds_toArray, List.set_cons_zero, List.set_cons_succ]
  refine anyLate_takeW (i := 12) (v := .pointer (some ⟨s, 0, none⟩)) rfl (by kernel_rfl) (by kernel_rfl) (by kernel_rfl) (fun _ _ _ h => h) (.inl ⟨by kernel_rfl, fun w _ => by go_simp⟩) ?_
  simp only [Act.put, List.setIfInBounds_toArray, List.set_cons_zero, List.set_cons_succ]
  refine anyLate_takeW (i := 13) (v := .pointer (some ⟨s, 1, none⟩)) rfl (by kernel_rfl) (by kernel_rfl) (by kernel_rfl) (fun _ _ _ h => h) (.inl ⟨by kernel_rfl, fun w _ => by go_simp⟩) ?_
  simp only [Act.put, List.setIfInBounds_toArray, List.set_cons_zero, List.set_cons_succ]
  refine anyLate_take (i := 14) (v := .int .i64 bys') rfl (by kernel_rfl) (by kernel_rfl) (by kernel_rfl) (fun _ _ _ h => h) rfl (by kernel_rfl) (.inl ⟨by kernel_rfl, fun w hSw => by (subst hSw; go_simp)⟩) rfl ?_
  simp only [Act.put, List.setIfInBounds_toArray, List.set_cons_zero, List.set_cons_succ]
  refine anyLate_takeW (i := 15) (v := .pointer (some ⟨nd, 0, none⟩)) rfl (by kernel_rfl) (by kernel_rfl) (by kernel_rfl) (fun _ _ _ h => h) (.inl ⟨by kernel_rfl, fun w _ => by go_simp⟩) ?_
  simp only [Act.put, List.setIfInBounds_toArray, List.set_cons_zero, List.set_cons_succ]
  refine anyLate_takeW (i := 16) (v := .pointer (some ⟨nd, 0, none⟩)) rfl (by kernel_rfl) (by kernel_rfl) (by kernel_rfl) (fun _ _ _ h => h) (.inl ⟨by kernel_rfl, fun w _ => by go_simp⟩) ?_
  simp only [Act.put, List.setIfInBounds_toArray, List.set_cons_zero, List.set_cons_succ]
  refine anyLate_takeW (i := 17) (v := .pointer (some ⟨nd, 76, none⟩)) rfl (by kernel_rfl) (by kernel_rfl) (by kernel_rfl) (fun _ _ _ h => h) (.inl ⟨by kernel_rfl, fun w _ => by go_simp⟩) ?_
  simp only [Act.put, List.setIfInBounds_toArray, List.set_cons_zero, List.set_cons_succ]
  refine anyLate_take (i := 18) (v := .pointer (some ⟨l, 0, none⟩)) rfl (by kernel_rfl) (by kernel_rfl) (by kernel_rfl) (fun _ _ _ h => h) rfl (by kernel_rfl) (.inl ⟨by kernel_rfl, fun w hSw => by (subst hSw; go_simp)⟩) rfl ?_
  simp only [Act.put, List.setIfInBounds_toArray, List.set_cons_zero, List.set_cons_succ]
  refine anyLate_takeW (i := 19) (v := .pointer (some ⟨l, 0, none⟩)) rfl (by kernel_rfl) (by kernel_rfl) (by kernel_rfl) (fun _ _ _ h => h) (.inl ⟨by kernel_rfl, fun w _ => by go_simp⟩) ?_
  simp only [Act.put, List.setIfInBounds_toArray, List.set_cons_zero, List.set_cons_succ]
  refine anyLate_takeW (i := 20) (v := .pointer (some ⟨l, 0, none⟩)) rfl (by kernel_rfl) (by kernel_rfl) (by kernel_rfl) (fun _ _ _ h => h) (.inl ⟨by kernel_rfl, fun w _ => by go_simp⟩) ?_
  simp only [Act.put, List.setIfInBounds_toArray, List.set_cons_zero, List.set_cons_succ]
  refine anyLate_take (i := 21) (v := .map (some mn)) rfl (by kernel_rfl) (by kernel_rfl) (by kernel_rfl) (fun _ _ _ h => h) rfl (by kernel_rfl) (.inl ⟨by kernel_rfl, fun w hSw => by (subst hSw; go_simp)⟩) rfl ?_
  simp only [Act.put, List.setIfInBounds_toArray, List.set_cons_zero, List.set_cons_succ]
  refine anyLate_take (i := 22) (v := .int .i64 (m' : Nat)) rfl (by kernel_rfl) (by kernel_rfl) (by kernel_rfl) (fun _ _ _ h => h) rfl (by kernel_rfl) (.inl ⟨by kernel_rfl, fun w hSw => by (subst hSw; go_simp)⟩) rfl ?_
  simp only [Act.put, List.setIfInBounds_toArray, List.set_cons_zero, List.set_cons_succ]
  refine anyLate_takeW (i := 23) (v := .pointer (some ⟨nd, 0, none⟩)) rfl (by kernel_rfl) (by kernel_rfl) (by kernel_rfl) (fun _ _ _ h => h) (.inl ⟨by kernel_rfl, fun w _ => by go_simp⟩) ?_
  simp only [Act.put, List.setIfInBounds_toArray, List.set_cons_zero, List.set_cons_succ]
  refine anyLate_takeW (i := 24) (v := .pointer (some ⟨nd, 0, none⟩)) rfl (by kernel_rfl) (by kernel_rfl) (by kernel_rfl) (fun _ _ _ h => h) (.inl ⟨by kernel_rfl, fun w _ => by go_simp⟩) ?_
  simp only [Act.put, List.setIfInBounds_toArray, List.set_cons_zero, List.set_cons_succ]
  refine anyLate_takeW (i := 25) (v := .pointer (some ⟨nd, 79, none⟩)) rfl (by kernel_rfl) (by kernel_rfl) (by kernel_rfl) (fun _ _ _ h => h) (.inl ⟨by kernel_rfl, fun w _ => by go_simp⟩) ?_
  simp only [Act.put, List.setIfInBounds_toArray, List.set_cons_zero, List.set_cons_succ]
  refine anyLate_take (i := 26) (v := .int .u64 dr) rfl (by kernel_rfl) (by kernel_rfl) (by kernel_rfl) (fun _ _ _ h => h) rfl (by kernel_rfl) (.inl ⟨by kernel_rfl, fun w hSw => by (subst hSw; go_simp)⟩) rfl ?_
  simp only [Act.put, List.setIfInBounds_toArray, List.set_cons_zero, List.set_cons_succ]
  refine anyLate_takeW (i := 27) (v := .pointer (some ⟨nd, 0, none⟩)) rfl (by kernel_rfl) (by kernel_rfl) (by kernel_rfl) (fun _ _ _ h => h) (.inl ⟨by kernel_rfl, fun w _ => by go_simp⟩) ?_
  simp only [Act.put, List.setIfInBounds_toArray, List.set_cons_zero, List.set_cons_succ]
  refine anyLate_takeW (i := 28) (v := .pointer (some ⟨nd, 0, none⟩)) rfl (by kernel_rfl) (by kernel_rfl) (by kernel_rfl) (fun _ _ _ h => h) (.inl ⟨by kernel_rfl, fun w _ => by go_simp⟩) ?_
  simp only [Act.put, List.setIfInBounds_toArray, List.set_cons_zero, List.set_cons_succ]
  refine anyLate_takeW (i := 29) (v := .pointer (some ⟨nd, 81, none⟩)) rfl (by kernel_rfl) (by kernel_rfl) (by kernel_rfl) (fun _ _ _ h => h) (.inl ⟨by kernel_rfl, fun w _ => by go_simp⟩) ?_
  simp only [Act.put, List.setIfInBounds_toArray, List.set_cons_zero, List.set_cons_succ]
  refine anyLate_take (i := 30) (v := .int .u64 iv) rfl (by kernel_rfl) (by kernel_rfl) (by kernel_rfl) (fun _ _ _ h => h) rfl (by kernel_rfl) (.inl ⟨by kernel_rfl, fun w hSw => by (subst hSw; go_simp)⟩) rfl ?_
  simp only [Act.put, List.setIfInBounds_toArray, List.set_cons_zero, List.set_cons_succ]
  refine anyLate_takeW (i := 31) (v := .agg #[.int .i64 (n' : Nat), .int .i64 bys', .int .i64 (m' : Nat), .int .u64 dr, .int .u64 iv]) rfl (by kernel_rfl) (by kernel_rfl) (by kernel_rfl) (fun _ _ _ h => h) (.inl ⟨by kernel_rfl, fun w _ => by go_simp⟩) ?_
  simp only [Act.put, List.setIfInBounds_toArray, List.set_cons_zero, List.set_cons_succ]
  refine anyLate_ready (rs := [32]) (by kernel_rfl) (by simp) ?_
  refine AllLate.cons rfl (fun K' hK' => ?_) AllLate.nil
  go_simp
  refine hK'.out _ _ (fun h => by simp at h) ?_
  clear hK' d75 d76 d79 d81 s1 s2 q0 lv ln
  refine anyLate_done (by kernel_rfl) ?_ _
  go_wp2
  obtain ⟨W2, hW2⟩ : ∃ W2, W2 = (((((W1.setCell ⟨w.heap.size, 0, none⟩ (.int .i64 (n' : Nat))).setCell ⟨w.heap.size, 1, none⟩ (.int .i64 bys')).setCell ⟨w.heap.size, 2, none⟩ (.int .i64 (m' : Nat))).setCell ⟨w.heap.size, 3, none⟩ (.int .u64 dr)).setCell ⟨w.heap.size, 4, none⟩ (.int .u64 iv)).drew := ⟨_, rfl⟩
  have hb2 : ∀ k, k ≠ w.heap.size → W2.heap[k]? = W1.heap[k]? := fun k hk => by
    rw [hW2]
    show (((((W1.setCell ⟨w.heap.size, 0, none⟩ _).setCell ⟨w.heap.size, 1, none⟩ _).setCell ⟨w.heap.size, 2, none⟩ _).setCell ⟨w.heap.size, 3, none⟩ _).setCell ⟨w.heap.size, 4, none⟩ _).heap[k]? = _
    rw [Below.heap_setCell _ _ _ _ (fun e => hk e), Below.heap_setCell _ _ _ _ (fun e => hk e), Below.heap_setCell _ _ _ _ (fun e => hk e), Below.heap_setCell _ _ _ _ (fun e => hk e), Below.heap_setCell _ _ _ _ (fun e => hk e)]
  have no : w.heap.size < w.heap.size → (fun k => StO sl s bk mv mk n f k ∨ LkO l bkq mn mp m fq k ∨ k = cb) w.heap.size := fun h => absurd h (Nat.lt_irrefl _)
  have hK2 : Kept (fun k => StO sl s bk mv mk n f k ∨ LkO l bkq mn mp m fq k ∨ k = cb) w W2 := by
    rw [hW2]
    exact Kept.drew (Kept.setCell (Kept.setCell (Kept.setCell (Kept.setCell (Kept.setCell HK1.out ⟨w.heap.size, 0, none⟩ no _) ⟨w.heap.size, 1, none⟩ no _) ⟨w.heap.size, 2, none⟩ no _) ⟨w.heap.size, 3, none⟩ no _) ⟨w.heap.size, 4, none⟩ no _)
  refine bodyPost_ret (v := .agg (stv n' bys' m' dr iv)) (by simp [results, Yba.results14, go_sem, rf, r0, r1, r2, r3, r4, stv]) rfl ?_
  rw [← hW2]
  have M := HN1.out
  have R := HA.out
  have n1 : ∀ {k : Nat} {C : Array Value} {tt : TypeId}, W1.heap[k]? = some (.cells C tt (0, 0)) → tt ≠ 97 → k ≠ w.heap.size := fun h1 h2 e => blk_ne h1 Hr1.out h2 e
  refine ⟨n', bys', ch', f', m', fq', rfl, ⟨(hb2 nd (n1 M.obj (by decide))).trans M.obj, M.a74, M.a75, M.a76, M.a79, M.a81, (hb2 cb (n1 M.calls (by decide))).trans M.calls, (hb2 nb (n1 M.now (by decide))).trans M.now⟩, hK2, ?_⟩
  exact ⟨R.st.keepO (fun k hk => hb2 k (fun e => R.st.not Hr1.out (by decide) (by decide) (by decide) (e ▸ hk))), R.le, R.bys, R.ch, R.sum, R.due, R.lk.keepO (fun k hk => hb2 k (fun e => R.lk.not Hr1.out (by decide) (by decide) (by decide) (e ▸ hk))), R.leq, R.sumq, R.dueq, R.mem, R.memq⟩
end Go.Proofs.Ybulkamjs
