import Derived.Test.YbulkamjsTime
namespace Go.Proofs.Ybulkamjs
open Go.RowKit
set_option linter.unusedVariables false

theorem bcell {W w1 : World} (hb : Below W.heap.size W w1) : (∀ b o, b < W.heap.size → w1.cell? ⟨b, o, none⟩ = W.cell? ⟨b, o, none⟩) ∧ (∀ b o, b < W.heap.size → w1.frozen? ⟨b, o, none⟩ = W.frozen? ⟨b, o, none⟩) :=
  ⟨fun b o h => hb.cell (p := ⟨b, o, none⟩) h, fun b o h => hb.frozen (p := ⟨b, o, none⟩) h⟩

theorem cell_far {w : World} {p a : Addr} {v : Value} (h : ¬ p.block = a.block) : (w.setCell p v).cell? a = w.cell? a :=
  World.cell?_setCell_other _ _ _ _ (fun e => h (congrArg Addr.block e))

theorem below_set_both {B : Nat} {w w1 : World} (h : Below B w w1) (a : Addr) (v : Value) : Below B (w.setCell a v) (w1.setCell a v) := by
  refine ⟨h.os, h.tape, h.output, by simpa [World.setCell] using h.size, fun k hk => ?_⟩
  simp only [World.setCell, Array.getElem?_modify]
  rw [h.block k hk]

set_option maxHeartbeats 1000000 in
theorem clo_fresh (cb tb : Nat) (n x : Int) (w : World)
    (hcb : cb < w.heap.size) (htb : tb < w.heap.size) (hne : ¬ cb = tb)
    (hcnt : w.cell? ⟨cb, 0, none⟩ = some (.int .i64 0)) (hfz : w.frozen? ⟨cb, 0, none⟩ = false)
    (t0 : w.cell? ⟨tb, 0, none⟩ = some (.int .u64 n)) (t1 : w.cell? ⟨tb, 1, none⟩ = some (.int .i64 x)) (t2 : w.cell? ⟨tb, 2, none⟩ = some (.pointer none)) :
    Calls Yba.prog 20 #[.pointer (some ⟨cb, 0, none⟩), .pointer (some ⟨tb, 0, none⟩)] w fun e w' => e = .returned (.agg #[.int .u64 n, .int .i64 x, .pointer none]) ∧ w.heap.size ≤ w'.heap.size ∧ Below w.heap.size (w.setCell ⟨cb, 0, none⟩ (.int .i64 1)) w' := by
  have hne' : ¬ tb = cb := fun h => hne h.symm
  go_enter Yba.func20, Yba.ntmps20
  go_wp2
  refine bodyPost_ret (v := .agg #[.int .u64 n, .int .i64 x, .pointer none]) (by simp [results, Yba.results20, go_sem]) rfl ⟨rfl, ?_⟩
  exact ⟨by simp [World.setCell], (Below.refl _ _).alloc (by simp [World.setCell]) _⟩

set_option maxHeartbeats 1000000 in
theorem due_fresh (b cb tb : Nat) (n x : Int) (w : World) (hf : w.cell? ⟨b, 74, none⟩ = some (.func (.func 20) #[] #[.pointer (some ⟨cb, 0, none⟩), .pointer (some ⟨tb, 0, none⟩)]))
    (hr0 : w.cell? ⟨b, 87, none⟩ = some (.int .u64 0)) (hr1 : w.cell? ⟨b, 88, none⟩ = some (.int .i64 0)) (hr2 : w.cell? ⟨b, 89, none⟩ = some (.pointer none))
    (hcb : cb < w.heap.size) (htb : tb < w.heap.size) (hne : ¬ cb = tb) (hbb : b < w.heap.size)
    (hcnt : w.cell? ⟨cb, 0, none⟩ = some (.int .i64 0)) (hfz : w.frozen? ⟨cb, 0, none⟩ = false)
    (t0 : w.cell? ⟨tb, 0, none⟩ = some (.int .u64 n)) (t1 : w.cell? ⟨tb, 1, none⟩ = some (.int .i64 x)) (t2 : w.cell? ⟨tb, 2, none⟩ = some (.pointer none)) :
    Calls Yba.prog 21 #[.pointer (some ⟨b, 0, none⟩)] w fun e w' => e = .returned (.agg #[.int .u64 n, .int .i64 x, .pointer none]) ∧ Below w.heap.size (w.setCell ⟨cb, 0, none⟩ (.int .i64 1)) w' := by
  go_enter Yba.func21, Yba.ntmps21
  go_wp2_with fail
  refine (isZero_yes _ _).mono ?_
  rintro e w1 ⟨rfl, hb1⟩
  have hb0 : Below w.heap.size w w1 := ((Below.refl _ _).alloc (Nat.le_refl _) _).trans (hb1.mono (by simp))
  have k1 := cell_later hb0 hf
  have hz : w.heap.size < w1.heap.size := by have := hb1.size; simp at this; omega
  have d0 : w1.cell? ⟨w.heap.size, 0, none⟩ = some (.int .u64 0) := by rw [hb1.cell (by simp)]; simp
  have d1 : w1.cell? ⟨w.heap.size, 1, none⟩ = some (.int .i64 0) := by rw [hb1.cell (by simp)]; simp
  have d2 : w1.cell? ⟨w.heap.size, 2, none⟩ = some (.pointer none) := by rw [hb1.cell (by simp)]; simp
  go_wp2_with fail
  refine (clo_fresh cb tb n x _ (by omega) (by omega) hne (cell_later hb0 hcnt) ((hb0.frozen hcb).trans hfz) (cell_later hb0 t0) (cell_later hb0 t1) (cell_later hb0 t2)).mono ?_
  rintro e w2 ⟨rfl, hz2, hb2⟩
  have hn : ¬ cb = w.heap.size := by omega
  have hn' : ¬ w.heap.size = cb := by omega
  have g0 : w2.cell? ⟨w.heap.size, 0, none⟩ = some (.int .u64 0) := by rw [hb2.cell hz, cell_far hn]; exact d0
  have g1 : w2.cell? ⟨w.heap.size, 1, none⟩ = some (.int .i64 0) := by rw [hb2.cell hz, cell_far hn]; exact d1
  have g2 : w2.cell? ⟨w.heap.size, 2, none⟩ = some (.pointer none) := by rw [hb2.cell hz, cell_far hn]; exact d2
  have fz : ∀ i, w1.frozen? ⟨w.heap.size, i, none⟩ = false := by intro i; rw [hb1.frozen (by simp)]; simp
  have f0 : ∀ i, w2.frozen? ⟨w.heap.size, i, none⟩ = false := by intro i; rw [hb2.frozen hz, World.frozen?_setCell]; exact fz i
  clear d0 d1 d2 fz
  go_wp2
  refine bodyPost_ret (v := .agg #[.int .u64 n, .int .i64 x, .pointer none]) (by simp [results, Yba.results21, go_sem, g0, g1, g2]) rfl ⟨rfl, ?_⟩
  exact ((((below_set_both hb0 _ _).trans (hb2.mono (by omega))).setCell (Nat.le_refl _) _).setCell (Nat.le_refl _) _).setCell (Nat.le_refl _) _

theorem node74 (f : Value) (a1 n x : Int) (b : Bool) : (Array.foldl (fun cs x => cs.setIfInBounds (82 + x.snd) x.fst) (Yba.zeroCells95.setIfInBounds 74 f) (((((((Yba.zeroCells93.setIfInBounds 0 (Value.int IntKind.i64 a1)).setIfInBounds 1 (Value.int IntKind.i64 0)).setIfInBounds 2 (Value.int IntKind.i64 0)).setIfInBounds 74 (Value.int IntKind.u64 n)).setIfInBounds 75 (Value.int IntKind.i64 x)).setIfInBounds 76 (Value.pointer none)).setIfInBounds 77 (Value.bool b)).zipIdx 0 83)[74]? = some f := by kernel_rfl
theorem node87 (f : Value) (a1 n x : Int) (b : Bool) : (Array.foldl (fun cs x => cs.setIfInBounds (82 + x.snd) x.fst) (Yba.zeroCells95.setIfInBounds 74 f) (((((((Yba.zeroCells93.setIfInBounds 0 (Value.int IntKind.i64 a1)).setIfInBounds 1 (Value.int IntKind.i64 0)).setIfInBounds 2 (Value.int IntKind.i64 0)).setIfInBounds 74 (Value.int IntKind.u64 n)).setIfInBounds 75 (Value.int IntKind.i64 x)).setIfInBounds 76 (Value.pointer none)).setIfInBounds 77 (Value.bool b)).zipIdx 0 83)[87]? = some (.int .u64 0) := by kernel_rfl
theorem node88 (f : Value) (a1 n x : Int) (b : Bool) : (Array.foldl (fun cs x => cs.setIfInBounds (82 + x.snd) x.fst) (Yba.zeroCells95.setIfInBounds 74 f) (((((((Yba.zeroCells93.setIfInBounds 0 (Value.int IntKind.i64 a1)).setIfInBounds 1 (Value.int IntKind.i64 0)).setIfInBounds 2 (Value.int IntKind.i64 0)).setIfInBounds 74 (Value.int IntKind.u64 n)).setIfInBounds 75 (Value.int IntKind.i64 x)).setIfInBounds 76 (Value.pointer none)).setIfInBounds 77 (Value.bool b)).zipIdx 0 83)[88]? = some (.int .i64 0) := by kernel_rfl
theorem node89 (f : Value) (a1 n x : Int) (b : Bool) : (Array.foldl (fun cs x => cs.setIfInBounds (82 + x.snd) x.fst) (Yba.zeroCells95.setIfInBounds 74 f) (((((((Yba.zeroCells93.setIfInBounds 0 (Value.int IntKind.i64 a1)).setIfInBounds 1 (Value.int IntKind.i64 0)).setIfInBounds 2 (Value.int IntKind.i64 0)).setIfInBounds 74 (Value.int IntKind.u64 n)).setIfInBounds 75 (Value.int IntKind.i64 x)).setIfInBounds 76 (Value.pointer none)).setIfInBounds 77 (Value.bool b)).zipIdx 0 83)[89]? = some (.pointer none) := by kernel_rfl

set_option maxHeartbeats 1000000 in
theorem fresh_walk (a0 a1 a2 : Int) (a3 : Bool) (w : World) (l0 : -9223372036854775808 ≤ a0) (u0 : a0 ≤ 9223372036854775807) (l2 : -9223372036854775808 ≤ a2) (u2 : a2 ≤ 9223372036854775807) :
    Calls Yba.prog 5 #[.int .i64 a0, .int .i64 a1, .int .i64 a2, .bool a3] w fun e w' => e = .returned (.bool true) ∧ Below w.heap.size w w' := by
  have hmf : ∀ (fn : Fn) (first cap : Array Value) (w : World), (Instr.makeFunc fn first cap).run Yba.prog w = .ok (.func fn first cap) w := fun _ _ _ _ => rfl
  go_enter Yba.func5, Yba.ntmps5
  go_wp2_with fail
  refine (add_any 0 0 a0 _ (by omega) (by omega) (by omega) (by omega) l0 u0).mono ?_
  rintro e w1 ⟨rfl, hb1⟩
  have hz1 : w.heap.size < w1.heap.size := by have := hb1.size; simp at this; omega
  have k1 : w1.cell? ⟨w.heap.size, 0, none⟩ = some (.int .i64 0) := by rw [hb1.cell (by simp)]; simp
  have f1 : w1.frozen? ⟨w.heap.size, 0, none⟩ = false := by rw [hb1.frozen (by simp)]; simp
  go_wp2_with fail
  refine (add_any 0 0 a2 _ (by omega) (by omega) (by omega) (by omega) l2 u2).mono ?_
  rintro e w2 ⟨rfl, hb2⟩
  have hz2 : w1.heap.size < w2.heap.size := by have := hb2.size; simp at this; omega
  have k2 : w2.cell? ⟨w.heap.size, 0, none⟩ = some (.int .i64 0) := by rw [hb2.cell (by simp; omega)]; rw [World.cell?_alloc_past _ _ _ (by omega)]; exact k1
  have f2 : w2.frozen? ⟨w.heap.size, 0, none⟩ = false := by rw [hb2.frozen (by simp; omega), World.frozen?_alloc_past _ _ _ hz1]; exact f1
  have c20 : w2.cell? ⟨w1.heap.size, 0, none⟩ = some (.int .u64 (a0 % 1000000000)) := by rw [hb2.cell (by simp)]; simp
  have c21 : w2.cell? ⟨w1.heap.size, 1, none⟩ = some (.int .i64 (a0 / 1000000000)) := by rw [hb2.cell (by simp)]; simp
  have c22 : w2.cell? ⟨w1.heap.size, 2, none⟩ = some (.pointer none) := by rw [hb2.cell (by simp)]; simp
  clear k1 f1
  go_wp2_with fail
  generalize hN : (Array.foldl _ _ _ 0 83) = N
  have n74 : N[74]? = some (.func (.func 20) #[] #[.pointer (some ⟨w.heap.size, 0, none⟩), .pointer (some ⟨w1.heap.size, 0, none⟩)]) := by rw [← hN]; exact node74 _ _ _ _ _
  have n87 : N[87]? = some (.int .u64 0) := by rw [← hN]; exact node87 _ _ _ _ _
  have n88 : N[88]? = some (.int .i64 0) := by rw [← hN]; exact node88 _ _ _ _ _
  have n89 : N[89]? = some (.pointer none) := by rw [← hN]; exact node89 _ _ _ _ _
  clear hN
  refine (due_fresh w2.heap.size w.heap.size w1.heap.size (a0 % 1000000000) (a0 / 1000000000) _ ?_ ?_ ?_ ?_ ?_ ?_ ?_ ?_ ?_ ?_ ?_ ?_ ?_).mono ?_
  · simp [n74]
  · simp [n87]
  · simp [n88]
  · simp [n89]
  · simp; omega
  · simp; omega
  · omega
  · simp
  · rw [World.cell?_alloc_past _ _ _ (by omega)]; exact k2
  · rw [World.frozen?_alloc_past _ _ _ (by omega)]; exact f2
  · rw [World.cell?_alloc_past _ _ _ (by omega)]; exact c20
  · rw [World.cell?_alloc_past _ _ _ (by omega)]; exact c21
  · rw [World.cell?_alloc_past _ _ _ (by omega)]; exact c22
  rintro e w3 ⟨rfl, hb3⟩
  have hz3 : w2.heap.size < w3.heap.size := by have := hb3.size; simp [World.setCell] at this; omega
  have e0 : ∀ j v, w2.cell? ⟨w1.heap.size, j, none⟩ = some v → w3.cell? ⟨w1.heap.size, j, none⟩ = some v := by
    intro j v h
    rw [hb3.cell (by simp; omega), cell_far (by simp; omega), World.cell?_alloc_past _ _ _ (by omega)]; exact h
  have c30 := e0 _ _ c20
  have c31 := e0 _ _ c21
  have c32 := e0 _ _ c22
  have c33 : w3.cell? ⟨w.heap.size, 0, none⟩ = some (.int .i64 1) := by
    rw [hb3.cell (by simp; omega)]
    exact World.cell?_setCell_same _ _ _ (u := .int .i64 0) (by rw [World.cell?_alloc_past _ _ _ (by omega)]; exact k2)
  clear c20 c21 c22 k2 f2 e0 n74 n87 n88 n89
  have q1 : w.heap.size < w3.heap.size := by omega
  have q2 : w1.heap.size < w3.heap.size := by omega
  go_wp2_with fail
  refine (equal_same (a0 % 1000000000) (a0 / 1000000000) _ (by omega) (by omega)).mono ?_
  rintro e w4 ⟨rfl, hb4⟩
  go_wp2
  go_ret
  refine ⟨rfl, ?_⟩
  have b1 : Below w.heap.size w w1 := ((Below.refl _ _).alloc (Nat.le_refl _) _).trans (hb1.mono (by simp))
  have b2 : Below w.heap.size w w2 := (b1.alloc (by omega) _).trans (hb2.mono (by simp; omega))
  have b3 : Below w.heap.size w w3 := ((b2.alloc (by omega) _).setCell (Nat.le_refl _) _).trans (hb3.mono (by simp; omega))
  exact (b3.alloc (by omega) _).trans (hb4.mono (by simp; omega))

end Go.Proofs.Ybulkamjs
