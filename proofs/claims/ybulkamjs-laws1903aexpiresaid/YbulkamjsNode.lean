/- (*Node).expire and Stats over the node of law A. -/
import Derived.Test.YbulkamjsSys
namespace Go.Proofs.Ybulkamjs
open Go.RowKit Go.Maps Go.WideMaps
set_option linter.unusedSimpArgs false
set_option linter.unusedVariables false

structure NodeS (w : World) (nd s l cb nb t : Nat) (A : Array Value) (dr iv c : Int) : Prop where
  obj : w.heap[nd]? = some (.cells A 95 (0, 0))
  a74 : A[74]? = some (.func (.func 13) #[] #[.pointer (some ⟨cb, 0, none⟩), .pointer (some ⟨nb, 0, none⟩)])
  a75 : A[75]? = some (.pointer (some ⟨s, 0, none⟩))
  a76 : A[76]? = some (.pointer (some ⟨l, 0, none⟩))
  a79 : A[79]? = some (.int .u64 dr)
  a81 : A[81]? = some (.int .u64 iv)
  calls : w.heap[cb]? = some (.cells #[.int .i64 c] 3 (0, 0))
  now : w.heap[nb]? = some (.cells #[.int .u64 t, .int .i64 0, .pointer none] 28 (0, 0))
structure Sep (mv mk mn mp : Nat) : Prop where
  h1 : mn ≠ mv
  h2 : mn ≠ mk
  h3 : mp ≠ mv
  h4 : mp ≠ mk

/-- What an expire leaves of the store and the lookups. -/
structure After (X Xq : Nat → Array Value) (key ix sl sz keyq nu : Nat → Nat) (s bk mv mk cap n l bkq mn mp capq m t : Nat) (cp bys ch : Int) (f fq : Nat → Nat) (w : World) (n' : Nat) (bys' ch' : Int) (f' : Nat → Nat) (m' : Nat) (fq' : Nat → Nat) : Prop where
  st : St X key ix sl sz w s bk mv mk cap n' cp bys' ch' f'
  le : n' ≤ n
  bys : bys' = sumF sz f' n'
  ch : ch' = ch + ((n : Int) - n')
  sum : ∀ g, (∀ b, key b ≤ t → g b = 0) → sumF g f' n' = sumF g f n
  due : dv key f' n' t = none
  lk : Lk Xq keyq nu w l bkq mn mp capq m' fq'
  leq : m' ≤ m
  sumq : ∀ g, (∀ b, keyq b ≤ t → g b = 0) → sumF g fq' m' = sumF g fq m
  dueq : dv keyq fq' m' t = none
  mem : ∀ k, k < n' → ∃ k', k' < n ∧ f' k = f k'
  memq : ∀ k, k < m' → ∃ k', k' < m ∧ fq' k = fq k'

set_option maxRecDepth 20000 in
set_option maxHeartbeats 8000000 in
theorem nexpire (X Xq : Nat → Array Value) (key ix sl sz keyq nu f fq : Nat → Nat) (w : World) (nd s bk mv mk cap n l bkq mn mp capq m cb nb t : Nat) (cp bys ch dr iv c : Int) (A : Array Value)
    (hN : NodeS w nd s l cb nb t A dr iv c) (hS : St X key ix sl sz w s bk mv mk cap n cp bys ch f) (hL : Lk Xq keyq nu w l bkq mn mp capq m fq) (hsep : Sep mv mk mn mp) (hby : bys = sumF sz f n) (hch : 0 ≤ ch ∧ ch < 10000) (hn : n ≤ 1024) (hm : m ≤ 1024) (ht : t < 65536) (hc : 0 ≤ c ∧ c < 100) :
    Calls Yba.prog 31 #[.pointer (some ⟨nd, 0, none⟩)] w fun e w' => e = .returned (.agg #[.int .u64 t, .int .i64 0, .pointer none]) ∧ NodeS w' nd s l cb nb t A dr iv (c + 1) ∧ Kept (fun k => StO sl s bk mv mk n f k ∨ LkO l bkq mn mp m fq k ∨ k = cb) w w' ∧
      ∃ n' bys' ch' f' m' fq', After X Xq key ix sl sz keyq nu s bk mv mk cap n l bkq mn mp capq m t cp bys ch f fq w' n' bys' ch' f' m' fq' := by
  have HN : Hid (NodeS w nd s l cb nb t A dr iv c) := hN
  have HS : Hid (St X key ix sl sz w s bk mv mk cap n cp bys ch f) := hS
  have HL : Hid (Lk Xq keyq nu w l bkq mn mp capq m fq) := hL
  have Hsep : Hid (Sep mv mk mn mp) := hsep
  have Hby : Hid (bys = sumF sz f n) := hby
  have Hch : Hid (0 ≤ ch ∧ ch < 10000) := hch
  have Hc : Hid (0 ≤ c ∧ c < 100) := hc
  have hndl := lt_of_heap hN.obj
  have hcbl := lt_of_heap hN.calls
  have hnbl := lt_of_heap hN.now
  have hnc : nd ≠ cb := blk_ne hN.obj hN.calls (by decide)
  have hbc : nb ≠ cb := blk_ne hN.now hN.calls (by decide)
  obtain ⟨W0, hW0⟩ : ∃ W, W = w.alloc (.cells #[.int .u64 0, .int .i64 0, .pointer none] 28 (0, 0)) := ⟨_, rfl⟩
  have hB0 : Below w.heap.size w W0 := by rw [hW0]; exact (Below.refl _ _).alloc (Nat.le_refl _) _
  have hrb0 : W0.heap[w.heap.size]? = some (.cells #[.int .u64 0, .int .i64 0, .pointer none] 28 (0, 0)) := by rw [hW0]; exact (MapKept.heap_alloc _ _).1
  have c74 : W0.cell? ⟨nd, 74, none⟩ = some (.func (.func 13) #[] #[.pointer (some ⟨cb, 0, none⟩), .pointer (some ⟨nb, 0, none⟩)]) := by
    rw [cell_of_row W0 nd 74 _ 95 (0, 0) ((hB0.block nd hndl).trans hN.obj)]; exact hN.a74
  have HC : Hid _ := clock cb nb t c W0 ((hB0.block cb hcbl).trans hN.calls) ((hB0.block nb hnbl).trans hN.now) hc.1 hc.2
  have HW0 : Hid (w.alloc (.cells #[.int .u64 0, .int .i64 0, .pointer none] 28 (0, 0)) = W0) := hW0.symm
  have HB0 : Hid (Below w.heap.size w W0) := hB0
  have Hrb0 : Hid _ := hrb0
  have hsz0 : W0.heap.size = w.heap.size + 1 := by rw [hW0]; simp
  clear hW0 hB0 hN hS hL hsep hby hch hc hrb0
  go_enter Yba.func31, Yba.ntmps31
  go_upto_region 1 with (fail)
  rw [HW0.out]
  go_wp2_with (fail)
  refine Calls.mono HC.out ?_
  rintro e W1 ⟨rfl, hc1, hK1⟩
  have hs1 := hK1.size
  have HKw1 : Hid (Kept (fun k => k = cb) w W1) := ((Kept.refl (fun k => k = cb) w).below' HB0.out).trans hK1 (fun _ _ h => h)
  have Hrb1 : Hid (W1.heap[w.heap.size]? = some (.cells #[.int .u64 0, .int .i64 0, .pointer none] 28 (0, 0))) := (hK1.block _ (lt_of_heap Hrb0.out) (fun e => by omega)).trans Hrb0.out
  have Hc1 : Hid (W1.heap[cb]? = some (.cells #[.int .i64 (c + 1)] 3 (0, 0))) := hc1
  clear hK1 hc1 c74 HC Hrb0
  go_upto_region 2 with (fail)
  generalize hW2 : W1.alloc _ = W2
  have hB2 : Below W1.heap.size W1 W2 := by rw [← hW2]; exact (Below.refl _ _).alloc (Nat.le_refl _) _
  have htb2 : W2.heap[W1.heap.size]? = some (.cells #[.int .u64 t, .int .i64 0, .pointer none] 28 (0, 0)) := by rw [← hW2]; exact (MapKept.heap_alloc _ _).1
  have HK2 : Hid (Kept (fun k => k = cb) w W2) := HKw1.out.below' hB2
  have Hrb2 : Hid (W2.heap[w.heap.size]? = some (.cells #[.int .u64 0, .int .i64 0, .pointer none] 28 (0, 0))) := (hB2.block _ (lt_of_heap Hrb1.out)).trans Hrb1.out
  have Hc2 : Hid (W2.heap[cb]? = some (.cells #[.int .i64 (c + 1)] 3 (0, 0))) := (hB2.block cb (lt_of_heap Hc1.out)).trans Hc1.out
  have hrt : w.heap.size ≠ W1.heap.size := by omega
  generalize hqq : W1.heap.size = tb at htb2 hrt ⊢
  have htbw : w.heap.size < tb := by omega
  clear hW2 HKw1 Hrb1 Hc1 hB2 hqq
  -- the blocks behind the clock's call
  have nScb : ¬ StO sl s bk mv mk n f cb := HS.out.not HN.out.calls (by decide) (by decide) (by decide)
  have nLcb : ¬ LkO l bkq mn mp m fq cb := HL.out.not HN.out.calls (by decide) (by decide) (by decide)
  have HS2 : Hid (St X key ix sl sz W2 s bk mv mk cap n cp bys ch f) := HS.out.keepO (fun k hk => HK2.out.block k (StO.lt HS.out hk) (fun e => nScb (e ▸ hk)))
  have HL2 : Hid (Lk Xq keyq nu W2 l bkq mn mp capq m fq) := HL.out.keepO (fun k hk => HK2.out.block k (LkO.lt HL.out hk) (fun e => nLcb (e ▸ hk)))
  have hnd2 : W2.heap[nd]? = some (.cells A 95 (0, 0)) := (HK2.out.block nd hndl hnc).trans HN.out.obj
  have hnow2 : W2.heap[nb]? = some (.cells #[.int .u64 t, .int .i64 0, .pointer none] 28 (0, 0)) := (HK2.out.block nb hnbl hbc).trans HN.out.now
  have c75 : W2.cell? ⟨nd, 75, none⟩ = some (.pointer (some ⟨s, 0, none⟩)) := by rw [cell_of_row W2 nd 75 _ 95 (0, 0) hnd2]; exact HN.out.a75
  have y0 : W2.cell? ⟨tb, 0, none⟩ = some (.int .u64 t) := by rw [cell_of_row _ _ 0 _ 28 (0, 0) htb2]; rfl
  have y1 : W2.cell? ⟨tb, 1, none⟩ = some (.int .i64 0) := by rw [cell_of_row _ _ 1 _ 28 (0, 0) htb2]; rfl
  have y2 : W2.cell? ⟨tb, 2, none⟩ = some (.pointer none) := by rw [cell_of_row _ _ 2 _ 28 (0, 0) htb2]; rfl
  have HE : Hid _ := sexpire X key ix sl sz f W2.drew s bk mv mk cap n t cp bys ch (HS2.out.keepO (fun _ _ => rfl)) Hby.out Hch.out hn ht
  have Hnd2 : Hid _ := hnd2
  have Hnow2 : Hid _ := hnow2
  have Htb2 : Hid _ := htb2
  clear hnd2 hnow2 htb2 nScb nLcb
  refine region_late (S := fun w' => w' = W2.drew) (late := fun i => i == 5) (by kernel_rfl) ?_
  refine anyLate_takeW (i := 0) (v := .pointer (some ⟨nd, 0, none⟩)) rfl (by kernel_rfl) (by kernel_rfl) (by kernel_rfl) (fun _ _ _ h => h) (.inl ⟨by kernel_rfl, fun w _ => by go_simp⟩) ?_
  simp only [Act.put, List.setIfInBounds_toArray, List.set_cons_zero, List.set_cons_succ]
  refine anyLate_takeW (i := 1) (v := .pointer (some ⟨nd, 0, none⟩)) rfl (by kernel_rfl) (by kernel_rfl) (by kernel_rfl) (fun _ _ _ h => h) (.inl ⟨by kernel_rfl, fun w _ => by go_simp⟩) ?_
  simp only [Act.put, List.setIfInBounds_toArray, List.set_cons_zero, List.set_cons_succ]
  refine anyLate_takeW (i := 2) (v := .pointer (some ⟨nd, 75, none⟩)) rfl (by kernel_rfl) (by kernel_rfl) (by kernel_rfl) (fun _ _ _ h => h) (.inl ⟨by kernel_rfl, fun w _ => by go_simp⟩) ?_
  simp only [Act.put, List.setIfInBounds_toArray, List.set_cons_zero, List.set_cons_succ]
  refine anyLate_take (i := 3) (v := .pointer (some ⟨s, 0, none⟩)) rfl (by kernel_rfl) (by kernel_rfl) (by kernel_rfl) (fun _ _ _ h => h) rfl (by kernel_rfl) (.inl ⟨by kernel_rfl, fun w hSw => by (subst hSw; go_simp)⟩) rfl ?_
  simp only [Act.put, List.setIfInBounds_toArray, List.set_cons_zero, List.set_cons_succ]
  refine anyLate_take (i := 4) (v := .agg #[.int .u64 t, .int .i64 0, .pointer none]) rfl (by kernel_rfl) (by kernel_rfl) (by kernel_rfl) (fun _ _ _ h => h) rfl (by kernel_rfl) (.inl ⟨by kernel_rfl, fun w hSw => by (subst hSw; go_simp)⟩) rfl ?_
  simp only [Act.put, List.setIfInBounds_toArray, List.set_cons_zero, List.set_cons_succ]
  refine anyLate_ready (rs := [5]) (by kernel_rfl) (by simp) ?_
  refine AllLate.cons rfl (fun K' hK' => ?_) AllLate.nil
  go_simp
  refine Calls.mono HE.out ?_
  rintro e W3 ⟨rfl, n', bys', ch', f', hSE, hd'⟩
  refine hK'.out _ _ (fun h => by simp at h) ?_
  clear hK' c75 y0 y1 y2 HE
  refine anyLate_done (by kernel_rfl) ?_ _
  have hK3 : Kept (StO sl s bk mv mk n f) W2 W3 := ⟨hSE.kept.os, hSE.kept.tape, hSE.kept.output, hSE.kept.size, hSE.kept.block⟩
  have HSE : Hid (SE X key ix sl sz W2.drew s bk mv mk cap n cp bys ch f t W3 n' bys' ch' f') := hSE
  have Hd' : Hid (dv key f' n' t = none) := hd'
  have HL3 : Hid (Lk Xq keyq nu W3 l bkq mn mp capq m fq) := HL2.out.keepO (fun k hk => hK3.block k (LkO.lt HL2.out hk) (apart HS2.out HL2.out Hsep.out.h1 Hsep.out.h2 Hsep.out.h3 Hsep.out.h4 k hk))
  have Hnd3 : Hid (W3.heap[nd]? = some (.cells A 95 (0, 0))) := (hK3.block nd (lt_of_heap Hnd2.out) (HS2.out.not Hnd2.out (by decide) (by decide) (by decide))).trans Hnd2.out
  have Hnow3 : Hid (W3.heap[nb]? = some (.cells #[.int .u64 t, .int .i64 0, .pointer none] 28 (0, 0))) := (hK3.block nb (lt_of_heap Hnow2.out) (HS2.out.not Hnow2.out (by decide) (by decide) (by decide))).trans Hnow2.out
  have Htb3 : Hid (W3.heap[tb]? = some (.cells #[.int .u64 t, .int .i64 0, .pointer none] 28 (0, 0))) := (hK3.block tb (lt_of_heap Htb2.out) (HS2.out.not Htb2.out (by decide) (by decide) (by decide))).trans Htb2.out
  have Hrb3 : Hid (W3.heap[w.heap.size]? = some (.cells #[.int .u64 0, .int .i64 0, .pointer none] 28 (0, 0))) := (hK3.block _ (lt_of_heap Hrb2.out) (HS2.out.not Hrb2.out (by decide) (by decide) (by decide))).trans Hrb2.out
  have Hc3 : Hid (W3.heap[cb]? = some (.cells #[.int .i64 (c + 1)] 3 (0, 0))) := (hK3.block cb (lt_of_heap Hc2.out) (HS2.out.not Hc2.out (by decide) (by decide) (by decide))).trans Hc2.out
  have HK3 : Hid (Kept (StO sl s bk mv mk n f) W2 W3) := hK3
  have HLE : Hid _ := lexpire Xq keyq nu fq W3.drew l bkq mn mp capq m t (HL3.out.keepO (fun _ _ => rfl)) hm ht
  have c76 : W3.cell? ⟨nd, 76, none⟩ = some (.pointer (some ⟨l, 0, none⟩)) := by rw [cell_of_row W3 nd 76 _ 95 (0, 0) Hnd3.out]; exact HN.out.a76
  have y0 : W3.cell? ⟨tb, 0, none⟩ = some (.int .u64 t) := by rw [cell_of_row _ _ 0 _ 28 (0, 0) Htb3.out]; rfl
  have y1 : W3.cell? ⟨tb, 1, none⟩ = some (.int .i64 0) := by rw [cell_of_row _ _ 1 _ 28 (0, 0) Htb3.out]; rfl
  have y2 : W3.cell? ⟨tb, 2, none⟩ = some (.pointer none) := by rw [cell_of_row _ _ 2 _ 28 (0, 0) Htb3.out]; rfl
  clear hK3 hSE hd' HL2
  go_wp2
  refine region_late (S := fun w' => w' = W3.drew) (late := fun i => i == 5) (by kernel_rfl) ?_
  refine anyLate_takeW (i := 0) (v := .pointer (some ⟨nd, 0, none⟩)) rfl (by kernel_rfl) (by kernel_rfl) (by kernel_rfl) (fun _ _ _ h => h) (.inl ⟨by kernel_rfl, fun w _ => by go_simp⟩) ?_
  simp only [Act.put, List.setIfInBounds_toArray, List.set_cons_zero, List.set_cons_succ]
  refine anyLate_takeW (i := 1) (v := .pointer (some ⟨nd, 0, none⟩)) rfl (by kernel_rfl) (by kernel_rfl) (by kernel_rfl) (fun _ _ _ h => h) (.inl ⟨by kernel_rfl, fun w _ => by go_simp⟩) ?_
  simp only [Act.put, List.setIfInBounds_toArray, List.set_cons_zero, List.set_cons_succ]
  refine anyLate_takeW (i := 2) (v := .pointer (some ⟨nd, 76, none⟩)) rfl (by kernel_rfl) (by kernel_rfl) (by kernel_rfl) (fun _ _ _ h => h) (.inl ⟨by kernel_rfl, fun w _ => by go_simp⟩) ?_
  simp only [Act.put, List.setIfInBounds_toArray, List.set_cons_zero, List.set_cons_succ]
  refine anyLate_take (i := 3) (v := .pointer (some ⟨l, 0, none⟩)) rfl (by kernel_rfl) (by kernel_rfl) (by kernel_rfl) (fun _ _ _ h => h) rfl (by kernel_rfl) (.inl ⟨by kernel_rfl, fun w hSw => by (subst hSw; go_simp)⟩) rfl ?_
  simp only [Act.put, List.setIfInBounds_toArray, List.set_cons_zero, List.set_cons_succ]
  refine anyLate_take (i := 4) (v := .agg #[.int .u64 t, .int .i64 0, .pointer none]) rfl (by kernel_rfl) (by kernel_rfl) (by kernel_rfl) (fun _ _ _ h => h) rfl (by kernel_rfl) (.inl ⟨by kernel_rfl, fun w hSw => by (subst hSw; go_simp)⟩) rfl ?_
  simp only [Act.put, List.setIfInBounds_toArray, List.set_cons_zero, List.set_cons_succ]
  refine anyLate_ready (rs := [5]) (by kernel_rfl) (by simp) ?_
  refine AllLate.cons rfl (fun K' hK' => ?_) AllLate.nil
  go_simp
  refine Calls.mono HLE.out ?_
  rintro e W4 ⟨rfl, m', fq', hLE, hdq⟩
  refine hK'.out _ _ (fun h => by simp at h) ?_
  clear hK' c76 y0 y1 y2 HLE
  refine anyLate_done (by kernel_rfl) ?_ _
  have hK4 : Kept (LkO l bkq mn mp m fq) W3 W4 := ⟨hLE.kept.os, hLE.kept.tape, hLE.kept.output, hLE.kept.size, hLE.kept.block⟩
  have ap3 : ∀ k, LkO l bkq mn mp m fq k → ¬ StO sl s bk mv mk n' f' k := apart HSE.out.st HL3.out Hsep.out.h1 Hsep.out.h2 Hsep.out.h3 Hsep.out.h4
  have HS4 : Hid (St X key ix sl sz W4 s bk mv mk cap n' cp bys' ch' f') := HSE.out.st.keepO (fun k hk => hK4.block k (StO.lt HSE.out.st hk) (fun h => ap3 k h hk))
  have Hnd4 : Hid (W4.heap[nd]? = some (.cells A 95 (0, 0))) := (hK4.block nd (lt_of_heap Hnd3.out) (HL3.out.not Hnd3.out (by decide) (by decide) (by decide))).trans Hnd3.out
  have Hnow4 : Hid (W4.heap[nb]? = some (.cells #[.int .u64 t, .int .i64 0, .pointer none] 28 (0, 0))) := (hK4.block nb (lt_of_heap Hnow3.out) (HL3.out.not Hnow3.out (by decide) (by decide) (by decide))).trans Hnow3.out
  have htb4 : W4.heap[tb]? = some (.cells #[.int .u64 t, .int .i64 0, .pointer none] 28 (0, 0)) := (hK4.block tb (lt_of_heap Htb3.out) (HL3.out.not Htb3.out (by decide) (by decide) (by decide))).trans Htb3.out
  have hrb4 : W4.heap[w.heap.size]? = some (.cells #[.int .u64 0, .int .i64 0, .pointer none] 28 (0, 0)) := (hK4.block _ (lt_of_heap Hrb3.out) (HL3.out.not Hrb3.out (by decide) (by decide) (by decide))).trans Hrb3.out
  have Hc4 : Hid (W4.heap[cb]? = some (.cells #[.int .i64 (c + 1)] 3 (0, 0))) := (hK4.block cb (lt_of_heap Hc3.out) (HL3.out.not Hc3.out (by decide) (by decide) (by decide))).trans Hc3.out
  have HK4 : Hid (Kept (fun k => StO sl s bk mv mk n f k ∨ LkO l bkq mn mp m fq k ∨ k = cb) w W4) :=
    ((HK2.out.mono (fun k _ h => .inr (.inr h))).trans HK3.out (fun k _ h => .inl h)).trans hK4 (fun k _ h => .inr (.inl h))
  have HLE2 : Hid (LE' Xq keyq nu W3.drew l bkq mn mp capq m fq t W4 m' fq') := hLE
  have Hdq : Hid (dv keyq fq' m' t = none) := hdq
  have y0 : W4.cell? ⟨tb, 0, none⟩ = some (.int .u64 t) := by rw [cell_of_row _ _ 0 _ 28 (0, 0) htb4]; rfl
  have y1 : W4.cell? ⟨tb, 1, none⟩ = some (.int .i64 0) := by rw [cell_of_row _ _ 1 _ 28 (0, 0) htb4]; rfl
  have y2 : W4.cell? ⟨tb, 2, none⟩ = some (.pointer none) := by rw [cell_of_row _ _ 2 _ 28 (0, 0) htb4]; rfl
  have r0 : W4.cell? ⟨w.heap.size, 0, none⟩ = some (.int .u64 0) := by rw [cell_of_row _ _ 0 _ 28 (0, 0) hrb4]; rfl
  have r1 : W4.cell? ⟨w.heap.size, 1, none⟩ = some (.int .i64 0) := by rw [cell_of_row _ _ 1 _ 28 (0, 0) hrb4]; rfl
  have r2 : W4.cell? ⟨w.heap.size, 2, none⟩ = some (.pointer none) := by rw [cell_of_row _ _ 2 _ 28 (0, 0) hrb4]; rfl
  have rf : ∀ i, W4.frozen? ⟨w.heap.size, i, none⟩ = false := fun i => by simp [World.frozen?, hrb4]
  have nLr : ¬ LkO l bkq mn mp m' fq' w.heap.size := HLE2.out.st.not hrb4 (by decide) (by decide) (by decide)
  have nSr : ¬ StO sl s bk mv mk n' f' w.heap.size := HS4.out.not hrb4 (by decide) (by decide) (by decide)
  have HnL : Hid _ := nLr
  have HnS : Hid _ := nSr
  clear hK4 hLE hdq ap3 htb4 hrb4 HL3 HS2 nLr nSr
  go_wp2
  obtain ⟨W5, hW5⟩ : ∃ W5, W5 = ((W4.setCell ⟨w.heap.size, 0, none⟩ (.int .u64 t)).setCell ⟨w.heap.size, 1, none⟩ (.int .i64 0)).setCell ⟨w.heap.size, 2, none⟩ (.pointer none) := ⟨_, rfl⟩
  have hb5 : ∀ k, k ≠ w.heap.size → W5.heap[k]? = W4.heap[k]? := fun k hk => by
    rw [hW5, Below.heap_setCell _ _ _ _ (fun e => hk e), Below.heap_setCell _ _ _ _ (fun e => hk e), Below.heap_setCell _ _ _ _ (fun e => hk e)]
  have hK5 : Kept (fun k => StO sl s bk mv mk n f k ∨ LkO l bkq mn mp m fq k ∨ k = cb) w W5 := by
    rw [hW5]
    exact Kept.setCell (Kept.setCell (Kept.setCell HK4.out ⟨w.heap.size, 0, none⟩ (fun h => absurd h (Nat.lt_irrefl _)) _) ⟨w.heap.size, 1, none⟩ (fun h => absurd h (Nat.lt_irrefl _)) _) ⟨w.heap.size, 2, none⟩ (fun h => absurd h (Nat.lt_irrefl _)) _
  refine bodyPost_ret (v := .agg #[.int .u64 t, .int .i64 0, .pointer none]) (by simp [results, Yba.results31, go_sem, rf, r0, r1, r2]) rfl ?_
  rw [← hW5]
  have S := HSE.out
  have L := HLE2.out
  have M := HN.out
  refine ⟨rfl, ⟨(hb5 nd (by omega)).trans Hnd4.out, M.a74, M.a75, M.a76, M.a79, M.a81, (hb5 cb (by omega)).trans Hc4.out, (hb5 nb (by omega)).trans Hnow4.out⟩, hK5, n', bys', ch', f', m', fq', ?_⟩
  exact ⟨HS4.out.keepO (fun k hk => hb5 k (fun e => HnS.out (e ▸ hk))), S.le, S.bys, S.ch, S.sum, Hd'.out, L.st.keepO (fun k hk => hb5 k (fun e => HnL.out (e ▸ hk))), L.le, L.sum, Hdq.out, S.mem, L.mem⟩
end Go.Proofs.Ybulkamjs
