/- first, due and remove of a timedQueue (made by a small program for each of the two element types). -/
import Derived.Test.YbulkamjsHeapQ
namespace Go.Proofs.Ybulkamjs
open Go.RowKit Go.Maps Go.WideMaps
set_option linter.unusedSimpArgs false
set_option linter.unusedVariables false

theorem blessQ {B B' : Nat} {w w' : World} (h : Below B w w') (hB : B' ≤ B) : Below B' w w' := ⟨h.os, h.tape, h.output, h.size, fun k hk => h.block k (by omega)⟩
theorem eqpQ (w : World) : (binOp .eql 56 (.pointer none) (.pointer none)).run Yba.prog w = .ok (.bool true) w := by kernel_rfl

theorem firstQ_none (a : Option Addr) (cap : Nat) (w : World) : Calls Yba.prog 75 #[.slice a 0 cap] w fun e w' => e = .returned (.pointer none) ∧ w' = w := by
  go_enter Yba.func75, Yba.ntmps75
  go_wp2
  go_ret
  exact ⟨rfl, rfl⟩
theorem firstQ_some (bk n cap b : Nat) (w : World) (h : w.cell? ⟨bk, 0, none⟩ = some (.pointer (some ⟨b, 0, none⟩))) (hn : n < 100000) : Calls Yba.prog 75 #[.slice (some ⟨bk, 0, none⟩) (n + 1) cap] w fun e w' => e = .returned (.pointer (some ⟨b, 0, none⟩)) ∧ w' = w := by
  have hne : ((n : Int) + 1 == 0) = false := by simp; omega
  go_enter Yba.func75, Yba.ntmps75
  go_wp2
  go_ret
  exact ⟨rfl, rfl⟩

set_option maxRecDepth 20000 in
set_option maxHeartbeats 4000000 in
theorem dueQ_none (a : Option Addr) (cap t : Nat) (w : World) : Calls Yba.prog 62 #[.slice a 0 cap, .agg #[.int .u64 t, .int .i64 0, .pointer none]] w fun e w' => e = .returned (.pointer none) ∧ Below w.heap.size w w' := by
  go_enter Yba.func62, Yba.ntmps62
  go_wp2_with (go_at_call 75; refine (firstQ_none _ _ _).mono ?_; rintro e w' ⟨rfl, hw'⟩; subst w')
  have HB : Hid (Below w.heap.size w (w.alloc (.cells #[.int .u64 t, .int .i64 0, .pointer none] 28 (0, 0)))) := (Below.refl _ _).alloc (Nat.le_refl _) _
  generalize w.alloc _ = W at HB ⊢
  refine region_late (S := fun _ => True) (late := fun _ => false) (by kernel_rfl) ?_
  refine anyLate_takeW (i := 0) (v := .pointer none) rfl (by kernel_rfl) (by kernel_rfl) (by kernel_rfl) (fun _ _ _ h => h) (.inl ⟨by kernel_rfl, fun w _ => by go_simp⟩) ?_
  simp only [Act.put, List.setIfInBounds_toArray, List.set_cons_zero, List.set_cons_succ]
  refine anyLate_takeW (i := 1) (v := .bool true) rfl (by kernel_rfl) (by kernel_rfl) (by kernel_rfl) (fun _ _ _ h => h) (.inl ⟨by kernel_rfl, fun w _ => by go_simp⟩) ?_
  simp only [Act.put, List.setIfInBounds_toArray, List.set_cons_zero, List.set_cons_succ]
  refine anyLate_takeW (i := 2) (v := .bool true) rfl (by kernel_rfl) (by kernel_rfl) (by kernel_rfl) (fun _ _ _ h => h) (.inl ⟨by kernel_rfl, fun w _ => by go_simp⟩) ?_
  simp only [Act.put, List.setIfInBounds_toArray, List.set_cons_zero, List.set_cons_succ]
  refine anyLate_takeW (i := 3) (v := undef) rfl (by kernel_rfl) (by kernel_rfl) (by kernel_rfl) (fun _ _ _ h => h) (.inr ⟨by kernel_rfl, rfl⟩) ?_
  simp only [Act.put, List.setIfInBounds_toArray, List.set_cons_zero, List.set_cons_succ]
  refine anyLate_takeW (i := 4) (v := undef) rfl (by kernel_rfl) (by kernel_rfl) (by kernel_rfl) (fun _ _ _ h => h) (.inr ⟨by kernel_rfl, rfl⟩) ?_
  simp only [Act.put, List.setIfInBounds_toArray, List.set_cons_zero, List.set_cons_succ]
  refine anyLate_takeW (i := 5) (v := undef) rfl (by kernel_rfl) (by kernel_rfl) (by kernel_rfl) (fun _ _ _ h => h) (.inr ⟨by kernel_rfl, rfl⟩) ?_
  simp only [Act.put, List.setIfInBounds_toArray, List.set_cons_zero, List.set_cons_succ]
  refine anyLate_takeW (i := 6) (v := undef) rfl (by kernel_rfl) (by kernel_rfl) (by kernel_rfl) (fun _ _ _ h => h) (.inr ⟨by kernel_rfl, rfl⟩) ?_
  simp only [Act.put, List.setIfInBounds_toArray, List.set_cons_zero, List.set_cons_succ]
  refine anyLate_takeW (i := 7) (v := undef) rfl (by kernel_rfl) (by kernel_rfl) (by kernel_rfl) (fun _ _ _ h => h) (.inr ⟨by kernel_rfl, rfl⟩) ?_
  simp only [Act.put, List.setIfInBounds_toArray, List.set_cons_zero, List.set_cons_succ]
  refine anyLate_takeW (i := 8) (v := undef) rfl (by kernel_rfl) (by kernel_rfl) (by kernel_rfl) (fun _ _ _ h => h) (.inr ⟨by kernel_rfl, rfl⟩) ?_
  simp only [Act.put, List.setIfInBounds_toArray, List.set_cons_zero, List.set_cons_succ]
  refine anyLate_takeW (i := 9) (v := .bool true) rfl (by kernel_rfl) (by kernel_rfl) (by kernel_rfl) (fun _ _ _ h => h) (.inl ⟨by kernel_rfl, fun w _ => by go_simp⟩) ?_
  simp only [Act.put, List.setIfInBounds_toArray, List.set_cons_zero, List.set_cons_succ, List.getElem_toArray, List.getElem_cons_succ, List.getElem_cons_zero]
  refine anyLate_done (by kernel_rfl) ?_ _
  have HBd : Hid (Below w.heap.size w W.drew) := HB.out.drew
  go_wp2
  go_ret
  exact ⟨rfl, HBd.out⟩

theorem eqpnQ (b : Nat) (w : World) : (binOp .eql 56 (.pointer (some ⟨b, 0, none⟩)) (.pointer none)).run Yba.prog w = .ok (.bool false) w := by kernel_rfl
attribute [local simp] eqpnQ
set_option maxRecDepth 20000 in
set_option maxHeartbeats 4000000 in
theorem dueQ_some (bk n cap t : Nat) (X : Nat → Array Value) (key f : Nat → Nat) (w : World) (hQ : Qu 56 63 137 X key w bk (n + 1) f) (hn : n < 100000) (ht : t < 65536) (r : Bool) (hr : r = decide (t < key (f 0))) :
    Calls Yba.prog 62 #[.slice (some ⟨bk, 0, none⟩) (n + 1) cap, .agg #[.int .u64 t, .int .i64 0, .pointer none]] w fun e w' => e = .returned (.pointer (if r then none else some ⟨f 0, 0, none⟩)) ∧ Below w.heap.size w w' := by
  have HB : Hid (Below w.heap.size w (w.alloc (.cells #[.int .u64 t, .int .i64 0, .pointer none] 28 (0, 0)))) := (Below.refl _ _).alloc (Nat.le_refl _) _
  have hQ1 := hQ.below HB.out
  obtain ⟨hk, _, x0, x1, x2⟩ := hQ1.tm 0 (by omega)
  rw [← hQ1.icell (k := 0) (by omega) (by omega)] at x0 x1 x2
  have c0 := hQ1.cell (k := 0) (by omega)
  have hbx : (w.alloc (.cells #[.int .u64 t, .int .i64 0, .pointer none] 28 (0, 0))).heap[w.heap.size]? = some (.cells #[.int .u64 t, .int .i64 0, .pointer none] 28 (0, 0)) := (MapKept.heap_alloc _ _).1
  have y0 : (w.alloc (.cells #[.int .u64 t, .int .i64 0, .pointer none] 28 (0, 0))).cell? ⟨w.heap.size, 0, none⟩ = some (.int .u64 t) := by rw [cell_of_row _ _ 0 _ 28 (0, 0) hbx]; rfl
  have y1 : (w.alloc (.cells #[.int .u64 t, .int .i64 0, .pointer none] 28 (0, 0))).cell? ⟨w.heap.size, 1, none⟩ = some (.int .i64 0) := by rw [cell_of_row _ _ 1 _ 28 (0, 0) hbx]; rfl
  have y2 : (w.alloc (.cells #[.int .u64 t, .int .i64 0, .pointer none] 28 (0, 0))).cell? ⟨w.heap.size, 2, none⟩ = some (.pointer none) := by rw [cell_of_row _ _ 2 _ 28 (0, 0) hbx]; rfl
  generalize f 0 = b at *
  generalize key b = k1 at *
  have Hr : Hid (r = decide (t < k1)) := hr
  clear hQ hQ1 hbx hr
  go_enter Yba.func62, Yba.ntmps62
  go_wp2_with (go_at_call 75; refine (firstQ_some bk n cap b _ c0 hn).mono ?_; rintro e w' ⟨rfl, hw'⟩; subst w')
  generalize w.alloc _ = W at HB x0 x1 x2 y0 y1 y2 ⊢
  have HSn : (fun w' : World => w'.cell? ⟨w.heap.size, 0, none⟩ = some (.int .u64 t) ∧ w'.cell? ⟨w.heap.size, 1, none⟩ = some (.int .i64 0) ∧ w'.cell? ⟨w.heap.size, 2, none⟩ = some (.pointer none) ∧ w'.cell? ⟨b, 0, none⟩ = some (.int .u64 (k1 : Nat)) ∧ w'.cell? ⟨b, 1, none⟩ = some (.int .i64 0) ∧ w'.cell? ⟨b, 2, none⟩ = some (.pointer none)) W.drew := ⟨y0, y1, y2, x0, x1, x2⟩
  clear x0 x1 x2 y0 y1 y2
  refine region_late (S := fun w' : World => w'.cell? ⟨w.heap.size, 0, none⟩ = some (.int .u64 t) ∧ w'.cell? ⟨w.heap.size, 1, none⟩ = some (.int .i64 0) ∧ w'.cell? ⟨w.heap.size, 2, none⟩ = some (.pointer none) ∧ w'.cell? ⟨b, 0, none⟩ = some (.int .u64 (k1 : Nat)) ∧ w'.cell? ⟨b, 1, none⟩ = some (.int .i64 0) ∧ w'.cell? ⟨b, 2, none⟩ = some (.pointer none)) (late := fun _ => false) (by kernel_rfl) ?_
  refine anyLate_takeW (i := 0) (v := .pointer (some ⟨b, 0, none⟩)) rfl (by kernel_rfl) (by kernel_rfl) (by kernel_rfl) (fun _ _ _ h => h) (.inl ⟨by kernel_rfl, fun w _ => by go_simp⟩) ?_
  simp only [Act.put, List.setIfInBounds_toArray, List.set_cons_zero, List.set_cons_succ]
  refine anyLate_takeW (i := 1) (v := .bool false) rfl (by kernel_rfl) (by kernel_rfl) (by kernel_rfl) (fun _ _ _ h => h) (.inl ⟨by kernel_rfl, fun w _ => by go_simp⟩) ?_
  simp only [Act.put, List.setIfInBounds_toArray, List.set_cons_zero, List.set_cons_succ]
  refine anyLate_takeW (i := 2) (v := .bool false) rfl (by kernel_rfl) (by kernel_rfl) (by kernel_rfl) (fun _ _ _ h => h) (.inl ⟨by kernel_rfl, fun w _ => by go_simp⟩) ?_
  simp only [Act.put, List.setIfInBounds_toArray, List.set_cons_zero, List.set_cons_succ]
  refine anyLate_take (i := 3) (v := .agg #[.int .u64 t, .int .i64 0, .pointer none]) rfl (by kernel_rfl) (by kernel_rfl) (by kernel_rfl) (fun _ _ _ h => h) rfl (by kernel_rfl) (.inl ⟨by kernel_rfl, fun w hSw => by (obtain ⟨s1, s2, s3, s4, s5, s6⟩ := hSw; go_simp)⟩) HSn ?_
  simp only [Act.put, List.setIfInBounds_toArray, List.set_cons_zero, List.set_cons_succ]
  refine anyLate_takeW (i := 4) (v := .pointer (some ⟨b, 0, none⟩)) rfl (by kernel_rfl) (by kernel_rfl) (by kernel_rfl) (fun _ _ _ h => h) (.inl ⟨by kernel_rfl, fun w _ => by go_simp⟩) ?_
  simp only [Act.put, List.setIfInBounds_toArray, List.set_cons_zero, List.set_cons_succ]
  refine anyLate_takeW (i := 5) (v := .pointer (some ⟨b, 0, none⟩)) rfl (by kernel_rfl) (by kernel_rfl) (by kernel_rfl) (fun _ _ _ h => h) (.inl ⟨by kernel_rfl, fun w _ => by go_simp⟩) ?_
  simp only [Act.put, List.setIfInBounds_toArray, List.set_cons_zero, List.set_cons_succ]
  refine anyLate_takeW (i := 6) (v := .pointer (some ⟨b, 0, none⟩)) rfl (by kernel_rfl) (by kernel_rfl) (by kernel_rfl) (fun _ _ _ h => h) (.inl ⟨by kernel_rfl, fun w _ => by go_simp⟩) ?_
  simp only [Act.put, List.setIfInBounds_toArray, List.set_cons_zero, List.set_cons_succ]
  refine anyLate_take (i := 7) (v := .agg #[.int .u64 k1, .int .i64 0, .pointer none]) rfl (by kernel_rfl) (by kernel_rfl) (by kernel_rfl) (fun _ _ _ h => h) rfl (by kernel_rfl) (.inl ⟨by kernel_rfl, fun w hSw => by (obtain ⟨s1, s2, s3, s4, s5, s6⟩ := hSw; go_simp)⟩) HSn ?_
  simp only [Act.put, List.setIfInBounds_toArray, List.set_cons_zero, List.set_cons_succ]
  refine anyLate_ready (rs := [8]) (by kernel_rfl) (by simp) ?_
  refine AllLate.cons rfl (fun K' hK' => ?_) AllLate.nil
  go_simp
  refine Calls.mono (before_eq (t : Int) 0 (k1 : Int) 0 _ (by omega) (by omega) (by omega) (by omega)) ?_
  rintro e wn ⟨rfl, hwn⟩
  have hBd : Below W.drew.heap.size W.drew wn := by rw [hwn]; exact ((Below.refl _ _).alloc (Nat.le_refl _) _).alloc (by simp) _
  have HBn : Hid (Below w.heap.size w wn) := HB.out.trans (blessQ ((Below.refl W.heap.size W).drew.trans hBd) HB.out.size)
  rw [bef0, ← Hr.out]
  refine hK'.out _ _ (fun _ hS => ⟨bcell hBd hS.1, bcell hBd hS.2.1, bcell hBd hS.2.2.1, bcell hBd hS.2.2.2.1, bcell hBd hS.2.2.2.2.1, bcell hBd hS.2.2.2.2.2⟩) ?_
  clear hK' hwn hBd HSn
  try simp only [Act.put, List.setIfInBounds_toArray, List.set_cons_zero, List.set_cons_succ]
  refine anyLate_takeW (i := 9) (v := .bool r) rfl (by kernel_rfl) (by kernel_rfl) (by kernel_rfl) (fun _ _ _ h => h) (.inl ⟨by kernel_rfl, fun w _ => by go_simp⟩) ?_
  simp only [Act.put, List.setIfInBounds_toArray, List.set_cons_zero, List.set_cons_succ, List.getElem_toArray, List.getElem_cons_succ, List.getElem_cons_zero]
  refine anyLate_done (by kernel_rfl) ?_ _
  cases r with
  | true =>
    go_wp2
    go_ret
    exact ⟨rfl, HBn.out⟩
  | false =>
    go_wp2
    go_ret
    exact ⟨rfl, HBn.out⟩
set_option maxRecDepth 20000 in
set_option maxHeartbeats 4000000 in
theorem qremQ (qb qo bk n cap : Nat) (X : Nat → Array Value) (key f : Nat → Nat) (w : World) (hQ : Qu 56 63 137 X key w bk (n + 1) f) (hc : w.cell? ⟨qb, qo, none⟩ = some (.slice (some ⟨bk, 0, none⟩) (n + 1) cap)) (hcap : cap < 9223372036854775808) (hn6 : n + 1 < 100000) (hnc : n + 1 ≤ cap) (hq : qb ≠ bk) (hqf : ∀ k, k < n + 1 → f k ≠ qb) (hH : HeapO key f (n + 1))
    (hfz : w.frozen? ⟨qb, qo, none⟩ = false) :
    Calls Yba.prog 76 #[.pointer (some ⟨qb, qo, none⟩), .pointer (some ⟨f 0, 0, none⟩)] w fun e w' => ∃ f', e = .returned (.tuple #[]) ∧ RmQ X key w qb qo bk n cap f w' f' := by
  have hi := hQ.index (k := 0) (by omega)
  have HR : Hid _ := removeQ qb qo bk n cap X key f w hQ hc hcap hn6 hnc hq hqf hH hfz
  clear hQ hqf hH
  go_enter Yba.func76, Yba.ntmps76
  go_wp2_with (fail)
  refine Calls.mono HR.out ?_
  rintro e w' ⟨v, f', rfl, hR⟩
  have HR2 : Hid _ := hR
  clear hR HR
  go_wp2
  go_end0
  exact ⟨f', rfl, HR2.out⟩
end Go.Proofs.Ybulkamjs
