import Derived.Test.YbulkamjsFresh
import Derived.Test.YbulkamjsTimeW
import Derived.Deep.RegionHeld3
import Derived.Deep.QuietTactic
import Derived.BigQuiet
namespace Go.Proofs.Ybulkamjs
open Go.RowKit
set_option linter.unusedVariables false
set_option linter.unusedSimpArgs false

theorem alloc_drewN {w : World} {n : Nat} (o : Obj) : (w.drewN n).alloc o = (w.alloc o).drewN n := rfl
theorem setCell_drewN {w : World} {n : Nat} (a : Addr) (v : Value) : (w.drewN n).setCell a v = (w.setCell a v).drewN n := rfl
attribute [local go_sem] alloc_drewN setCell_drewN

theorem res_time {fn : Func} {p : Tmp} {b : Nat} {tmps : Array Value} {w : World} {v0 v1 v2 : Value} (h : fn.results = #[.cell p 28]) (hp : tmps.getD p undef = .pointer (some ⟨b, 0, none⟩))
    (c0 : w.cell? ⟨b, 0, none⟩ = some v0) (c1 : w.cell? ⟨b, 1, none⟩ = some v1) (c2 : w.cell? ⟨b, 2, none⟩ = some v2) : (results fn tmps).run Yba.prog w = .ok (.agg #[v0, v1, v2]) w := by
  have hp' : tmps[p]?.getD undef = .pointer (some ⟨b, 0, none⟩) := by simpa using hp
  simp [results, h, hp', go_sem, c0, c1, c2]

set_option maxHeartbeats 1000000 in
theorem late_none (b o : Nat) (w : World) (hb : b < w.heap.size) (hl : w.cell? ⟨b, o + 80, none⟩ = some (.slice none 0 0)) :
    Calls Yba.prog 53 #[.pointer (some ⟨b, o, none⟩)] w fun e w' => e = .returned (.tuple #[.pointer none, .agg #[.int .u64 0, .int .i64 0, .pointer none]]) ∧ w' = ((w.alloc (.cells #[.int .u64 0, .int .i64 0, .pointer none] 28)).alloc (.cells #[.int .u64 0, .int .i64 0, .pointer none] 28)).drew := by
  go_enter Yba.func53, Yba.ntmps53
  go_wp2
  refine wp_loop_rounds 1 ?_
  rw [rounds_succ]
  go_wp2
  go_region
  all_goals
    go_wp2
    exact bodyPost_ret (v := .tuple #[.pointer none, .agg #[.int .u64 0, .int .i64 0, .pointer none]]) (by simp [results, Yba.results53, go_sem]) rfl ⟨rfl, rfl⟩

set_option maxHeartbeats 2000000 in
theorem due_no (b o : Nat) (n x iv : Int) (w : World) (hb : b < w.heap.size) (h0 : 0 ≤ n) (h1 : n < 1000000000) (hx0 : -900000000000 ≤ x) (hx1 : x ≤ 900000000000) (hd0 : -9223372036854775808 ≤ iv) (hd1 : iv ≤ 9223372036854775807)
    (ci : w.cell? ⟨b, o, none⟩ = some (.int .i64 iv))
    (r0 : w.cell? ⟨b, o + 5, none⟩ = some (.int .u64 n)) (r1 : w.cell? ⟨b, o + 6, none⟩ = some (.int .i64 x)) (r2 : w.cell? ⟨b, o + 7, none⟩ = some (.pointer none))
    (cd : w.cell? ⟨b, o + 77, none⟩ = some (.bool false))
    (cb : w.cell? ⟨b, o + 79, none⟩ = some (.pointer none)) (hl : w.cell? ⟨b, o + 80, none⟩ = some (.slice none 0 0)) :
    Calls Yba.prog 35 #[.pointer (some ⟨b, o, none⟩)] w fun e w' => e = .returned (.agg #[.int .u64 ((n + iv) % 1000000000), .int .i64 (x + (n + iv) / 1000000000), .pointer none]) ∧ Below w.heap.size w w' := by
  have ha1 : b < w.heap.size + 1 := by omega
  have ha2 : b < w.heap.size + 1 + 1 := by omega
  have ha3 : b < w.heap.size + 1 + 1 + 1 := by omega
  have ha4 : b < w.heap.size + 1 + 1 + 1 + 1 := by omega
  go_enter Yba.func35, Yba.ntmps35
  go_wp2
  go_region_held3 (fun w' => w'.cell? ⟨b, o, none⟩ = some (.int .i64 iv) ∧ w'.cell? ⟨b, o + 5, none⟩ = some (.int .u64 n) ∧ w'.cell? ⟨b, o + 6, none⟩ = some (.int .i64 x) ∧ w'.cell? ⟨b, o + 7, none⟩ = some (.pointer none))
    (simp [World.cell?_alloc_past, hb, ha1, ha2, ha3, ha4, ci, r0, r1, r2])
    (first | (go_at_call 11; refine (add_eq n x iv _ h0 h1 hx0 hx1 hd0 hd1).mono ?_; rintro e w' ⟨rfl, rfl⟩))
  all_goals
    rename_i hHeld
    clear hHeld
    go_wp2
    go_quiet (fail)
    go_wp2_with (first | (go_at_call 53; refine (late_none b o _ (by simp; omega) (by simp [World.cell?_alloc_past, hb, ha1, ha2, ha3, ha4, hl])).mono ?_; rintro e w' ⟨rfl, rfl⟩))
  all_goals
    exact bodyPost_ret (v := .agg #[.int .u64 ((n + iv) % 1000000000), .int .i64 (x + (n + iv) / 1000000000), .pointer none]) (res_time Yba.results35 rfl (by go_simp) (by go_simp) (by go_simp)) rfl ⟨rfl, (by repeat (first | exact Below.refl _ _ | refine Below.drew ?_ | refine below_drewN ?_ _ | refine Below.alloc ?_ (by simp <;> omega) _ | refine Below.setCell ?_ (by simp <;> omega) _))⟩

set_option maxHeartbeats 2000000 in
theorem due_yes_own (b o : Nat) (n x iv m y : Int) (w : World) (hb : b < w.heap.size) (h0 : 0 ≤ n) (h1 : n < 1000000000) (hx0 : -900000000000 ≤ x) (hx1 : x ≤ 900000000000) (hd0 : -9223372036854775808 ≤ iv) (hd1 : iv ≤ 9223372036854775807)
    (g0 : 0 ≤ m) (g1 : m < 1000000000)
    (ci : w.cell? ⟨b, o, none⟩ = some (.int .i64 iv))
    (r0 : w.cell? ⟨b, o + 5, none⟩ = some (.int .u64 n)) (r1 : w.cell? ⟨b, o + 6, none⟩ = some (.int .i64 x)) (r2 : w.cell? ⟨b, o + 7, none⟩ = some (.pointer none))
    (s0 : w.cell? ⟨b, o + 74, none⟩ = some (.int .u64 m)) (s1 : w.cell? ⟨b, o + 75, none⟩ = some (.int .i64 y)) (s2 : w.cell? ⟨b, o + 76, none⟩ = some (.pointer none))
    (cd : w.cell? ⟨b, o + 77, none⟩ = some (.bool true))
    (cb : w.cell? ⟨b, o + 79, none⟩ = some (.pointer none)) (hl : w.cell? ⟨b, o + 80, none⟩ = some (.slice none 0 0))
    (hbf : bef m y ((n + iv) % 1000000000) (x + (n + iv) / 1000000000) = true) :
    Calls Yba.prog 35 #[.pointer (some ⟨b, o, none⟩)] w fun e w' => e = .returned (.agg #[.int .u64 m, .int .i64 y, .pointer none]) ∧ Below w.heap.size w w' := by
  have ha1 : b < w.heap.size + 1 := by omega
  have ha2 : b < w.heap.size + 1 + 1 := by omega
  have ha3 : b < w.heap.size + 1 + 1 + 1 := by omega
  have ha4 : b < w.heap.size + 1 + 1 + 1 + 1 := by omega
  have ha5 : b < w.heap.size + 1 + 1 + 1 + 1 + 1 := by omega
  have ha6 : b < w.heap.size + 1 + 1 + 1 + 1 + 1 + 1 := by omega
  have e0 : 0 ≤ (n + iv) % 1000000000 := by omega
  have e1 : (n + iv) % 1000000000 < 1000000000 := by omega
  go_enter Yba.func35, Yba.ntmps35
  go_wp2
  go_region_held3 (fun w' => w'.cell? ⟨b, o, none⟩ = some (.int .i64 iv) ∧ w'.cell? ⟨b, o + 5, none⟩ = some (.int .u64 n) ∧ w'.cell? ⟨b, o + 6, none⟩ = some (.int .i64 x) ∧ w'.cell? ⟨b, o + 7, none⟩ = some (.pointer none))
    (simp [World.cell?_alloc_past, hb, ha1, ha2, ha3, ha4, ci, r0, r1, r2])
    (first | (go_at_call 11; refine (add_eq n x iv _ h0 h1 hx0 hx1 hd0 hd1).mono ?_; rintro e w' ⟨rfl, rfl⟩))
  · rename_i hHeld
    clear hHeld
    go_wp2
    go_region_held3 (fun w' => w'.cell? ⟨b, o + 77, none⟩ = some (.bool true) ∧ w'.cell? ⟨b, o + 74, none⟩ = some (.int .u64 m) ∧ w'.cell? ⟨b, o + 75, none⟩ = some (.int .i64 y) ∧ w'.cell? ⟨b, o + 76, none⟩ = some (.pointer none) ∧ w'.cell? ⟨w.heap.size + 1 + 1 + 1, 0, none⟩ = some (.int .u64 ((n + iv) % 1000000000)) ∧ w'.cell? ⟨w.heap.size + 1 + 1 + 1, 1, none⟩ = some (.int .i64 (x + (n + iv) / 1000000000)) ∧ w'.cell? ⟨w.heap.size + 1 + 1 + 1, 2, none⟩ = some (.pointer none))
      (refine ⟨?_, ?_, ?_, ?_, ?_, ?_, ?_⟩ <;> go_simp)
      (first | (go_at_call 24; refine (before_eq m y _ _ _ g0 g1 e0 e1).mono ?_; rintro e w' ⟨rfl, rfl⟩))
    all_goals
      rename_i hHeld
      clear hHeld
      go_wp2_with (first | (go_at_call 53; refine (late_none b o _ (by simp; omega) (by simp [World.cell?_alloc_past, hb, ha1, ha2, ha3, ha4, ha5, ha6, hl])).mono ?_; rintro e w' ⟨rfl, rfl⟩))
      exact bodyPost_ret (v := .agg #[.int .u64 m, .int .i64 y, .pointer none]) (res_time Yba.results35 rfl (by go_simp) (by go_simp) (by go_simp)) rfl ⟨rfl, (by repeat (first | exact Below.refl _ _ | refine Below.drew ?_ | refine below_drewN ?_ _ | refine Below.alloc ?_ (by simp <;> omega) _ | refine Below.setCell ?_ (by simp <;> omega) _))⟩
  · rename_i hHeld
    clear hHeld
    go_wp2
    go_region_held3 (fun w' => w'.cell? ⟨b, o + 77, none⟩ = some (.bool true) ∧ w'.cell? ⟨b, o + 74, none⟩ = some (.int .u64 m) ∧ w'.cell? ⟨b, o + 75, none⟩ = some (.int .i64 y) ∧ w'.cell? ⟨b, o + 76, none⟩ = some (.pointer none) ∧ w'.cell? ⟨w.heap.size + 1, 0, none⟩ = some (.int .u64 ((n + iv) % 1000000000)) ∧ w'.cell? ⟨w.heap.size + 1, 1, none⟩ = some (.int .i64 (x + (n + iv) / 1000000000)) ∧ w'.cell? ⟨w.heap.size + 1, 2, none⟩ = some (.pointer none))
      (refine ⟨?_, ?_, ?_, ?_, ?_, ?_, ?_⟩ <;> go_simp)
      (first | (go_at_call 24; refine (before_eq m y _ _ _ g0 g1 e0 e1).mono ?_; rintro e w' ⟨rfl, rfl⟩))
    all_goals
      rename_i hHeld
      clear hHeld
      go_wp2_with (first | (go_at_call 53; refine (late_none b o _ (by simp; omega) (by simp [World.cell?_alloc_past, hb, ha1, ha2, ha3, ha4, ha5, ha6, hl])).mono ?_; rintro e w' ⟨rfl, rfl⟩))
      exact bodyPost_ret (v := .agg #[.int .u64 m, .int .i64 y, .pointer none]) (res_time Yba.results35 rfl (by go_simp) (by go_simp) (by go_simp)) rfl ⟨rfl, (by repeat (first | exact Below.refl _ _ | refine Below.drew ?_ | refine below_drewN ?_ _ | refine Below.alloc ?_ (by simp <;> omega) _ | refine Below.setCell ?_ (by simp <;> omega) _))⟩

set_option maxHeartbeats 2000000 in
theorem due_yes_not (b o : Nat) (n x iv m y : Int) (w : World) (hb : b < w.heap.size) (h0 : 0 ≤ n) (h1 : n < 1000000000) (hx0 : -900000000000 ≤ x) (hx1 : x ≤ 900000000000) (hd0 : -9223372036854775808 ≤ iv) (hd1 : iv ≤ 9223372036854775807)
    (g0 : 0 ≤ m) (g1 : m < 1000000000)
    (ci : w.cell? ⟨b, o, none⟩ = some (.int .i64 iv))
    (r0 : w.cell? ⟨b, o + 5, none⟩ = some (.int .u64 n)) (r1 : w.cell? ⟨b, o + 6, none⟩ = some (.int .i64 x)) (r2 : w.cell? ⟨b, o + 7, none⟩ = some (.pointer none))
    (s0 : w.cell? ⟨b, o + 74, none⟩ = some (.int .u64 m)) (s1 : w.cell? ⟨b, o + 75, none⟩ = some (.int .i64 y)) (s2 : w.cell? ⟨b, o + 76, none⟩ = some (.pointer none))
    (cd : w.cell? ⟨b, o + 77, none⟩ = some (.bool true))
    (cb : w.cell? ⟨b, o + 79, none⟩ = some (.pointer none)) (hl : w.cell? ⟨b, o + 80, none⟩ = some (.slice none 0 0))
    (hbf : bef m y ((n + iv) % 1000000000) (x + (n + iv) / 1000000000) = false) :
    Calls Yba.prog 35 #[.pointer (some ⟨b, o, none⟩)] w fun e w' => e = .returned (.agg #[.int .u64 ((n + iv) % 1000000000), .int .i64 (x + (n + iv) / 1000000000), .pointer none]) ∧ Below w.heap.size w w' := by
  have ha1 : b < w.heap.size + 1 := by omega
  have ha2 : b < w.heap.size + 1 + 1 := by omega
  have ha3 : b < w.heap.size + 1 + 1 + 1 := by omega
  have ha4 : b < w.heap.size + 1 + 1 + 1 + 1 := by omega
  have ha5 : b < w.heap.size + 1 + 1 + 1 + 1 + 1 := by omega
  have ha6 : b < w.heap.size + 1 + 1 + 1 + 1 + 1 + 1 := by omega
  have e0 : 0 ≤ (n + iv) % 1000000000 := by omega
  have e1 : (n + iv) % 1000000000 < 1000000000 := by omega
  go_enter Yba.func35, Yba.ntmps35
  go_wp2
  go_region_held3 (fun w' => w'.cell? ⟨b, o, none⟩ = some (.int .i64 iv) ∧ w'.cell? ⟨b, o + 5, none⟩ = some (.int .u64 n) ∧ w'.cell? ⟨b, o + 6, none⟩ = some (.int .i64 x) ∧ w'.cell? ⟨b, o + 7, none⟩ = some (.pointer none))
    (simp [World.cell?_alloc_past, hb, ha1, ha2, ha3, ha4, ci, r0, r1, r2])
    (first | (go_at_call 11; refine (add_eq n x iv _ h0 h1 hx0 hx1 hd0 hd1).mono ?_; rintro e w' ⟨rfl, rfl⟩))
  · rename_i hHeld
    clear hHeld
    go_wp2
    go_region_held3 (fun w' => w'.cell? ⟨b, o + 77, none⟩ = some (.bool true) ∧ w'.cell? ⟨b, o + 74, none⟩ = some (.int .u64 m) ∧ w'.cell? ⟨b, o + 75, none⟩ = some (.int .i64 y) ∧ w'.cell? ⟨b, o + 76, none⟩ = some (.pointer none) ∧ w'.cell? ⟨w.heap.size + 1 + 1 + 1, 0, none⟩ = some (.int .u64 ((n + iv) % 1000000000)) ∧ w'.cell? ⟨w.heap.size + 1 + 1 + 1, 1, none⟩ = some (.int .i64 (x + (n + iv) / 1000000000)) ∧ w'.cell? ⟨w.heap.size + 1 + 1 + 1, 2, none⟩ = some (.pointer none))
      (refine ⟨?_, ?_, ?_, ?_, ?_, ?_, ?_⟩ <;> go_simp)
      (first | (go_at_call 24; refine (before_eq m y _ _ _ g0 g1 e0 e1).mono ?_; rintro e w' ⟨rfl, rfl⟩))
    all_goals
      rename_i hHeld
      clear hHeld
      go_wp2_with (first | (go_at_call 53; refine (late_none b o _ (by simp; omega) (by simp [World.cell?_alloc_past, hb, ha1, ha2, ha3, ha4, ha5, ha6, hl])).mono ?_; rintro e w' ⟨rfl, rfl⟩))
      exact bodyPost_ret (v := .agg #[.int .u64 ((n + iv) % 1000000000), .int .i64 (x + (n + iv) / 1000000000), .pointer none]) (res_time Yba.results35 rfl (by go_simp) (by go_simp) (by go_simp)) rfl ⟨rfl, (by repeat (first | exact Below.refl _ _ | refine Below.drew ?_ | refine below_drewN ?_ _ | refine Below.alloc ?_ (by simp <;> omega) _ | refine Below.setCell ?_ (by simp <;> omega) _))⟩
  · rename_i hHeld
    clear hHeld
    go_wp2
    go_region_held3 (fun w' => w'.cell? ⟨b, o + 77, none⟩ = some (.bool true) ∧ w'.cell? ⟨b, o + 74, none⟩ = some (.int .u64 m) ∧ w'.cell? ⟨b, o + 75, none⟩ = some (.int .i64 y) ∧ w'.cell? ⟨b, o + 76, none⟩ = some (.pointer none) ∧ w'.cell? ⟨w.heap.size + 1, 0, none⟩ = some (.int .u64 ((n + iv) % 1000000000)) ∧ w'.cell? ⟨w.heap.size + 1, 1, none⟩ = some (.int .i64 (x + (n + iv) / 1000000000)) ∧ w'.cell? ⟨w.heap.size + 1, 2, none⟩ = some (.pointer none))
      (refine ⟨?_, ?_, ?_, ?_, ?_, ?_, ?_⟩ <;> go_simp)
      (first | (go_at_call 24; refine (before_eq m y _ _ _ g0 g1 e0 e1).mono ?_; rintro e w' ⟨rfl, rfl⟩))
    all_goals
      rename_i hHeld
      clear hHeld
      go_wp2_with (first | (go_at_call 53; refine (late_none b o _ (by simp; omega) (by simp [World.cell?_alloc_past, hb, ha1, ha2, ha3, ha4, ha5, ha6, hl])).mono ?_; rintro e w' ⟨rfl, rfl⟩))
      exact bodyPost_ret (v := .agg #[.int .u64 ((n + iv) % 1000000000), .int .i64 (x + (n + iv) / 1000000000), .pointer none]) (res_time Yba.results35 rfl (by go_simp) (by go_simp) (by go_simp)) rfl ⟨rfl, (by repeat (first | exact Below.refl _ _ | refine Below.drew ?_ | refine below_drewN ?_ _ | refine Below.alloc ?_ (by simp <;> omega) _ | refine Below.setCell ?_ (by simp <;> omega) _))⟩

end Go.Proofs.Ybulkamjs
