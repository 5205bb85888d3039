import Derived.Test.YbulkamjsRound
namespace Go.Proofs.Ybulkamjs
open Go.RowKit
set_option linter.unusedVariables false
set_option linter.unusedSimpArgs false
attribute [local go_sem] alloc_drewN setCell_drewN

set_option maxHeartbeats 1000000 in
theorem due_round (b : Nat) (n x rn rx : Int) (w : World) (hb : b < w.heap.size) (hnz : n ≠ 0 ∨ x ≠ 0)
    (r0 : w.cell? ⟨b, 87, none⟩ = some (.int .u64 n)) (r1 : w.cell? ⟨b, 88, none⟩ = some (.int .i64 x)) (r2 : w.cell? ⟨b, 89, none⟩ = some (.pointer none))
    (H : Hid (∀ W, Below w.heap.size w W → Calls Yba.prog 35 #[.pointer (some ⟨b, 82, none⟩)] W fun e w' => e = .returned (.agg #[.int .u64 rn, .int .i64 rx, .pointer none]) ∧ Below W.heap.size W w')) :
    Calls Yba.prog 21 #[.pointer (some ⟨b, 0, none⟩)] w fun e w' => e = .returned (.agg #[.int .u64 rn, .int .i64 rx, .pointer none]) ∧ Below w.heap.size w w' := by
  have HN : Hid (n ≠ 0 ∨ x ≠ 0) := hnz
  clear hnz
  go_enter Yba.func21, Yba.ntmps21
  go_wp2_with fail
  refine (isZero_no _ _ _ _ HN.out).mono ?_
  rintro e w1 ⟨rfl, hb1⟩
  have hb0 : Below w.heap.size w w1 := ((Below.refl _ _).alloc (Nat.le_refl _) _).trans (hb1.mono (by simp))
  have hz : w.heap.size < w1.heap.size := by have := hb1.size; simp at this; omega
  have d0 : w1.cell? ⟨w.heap.size, 0, none⟩ = some (.int .u64 0) := by rw [hb1.cell (by simp)]; simp
  have d1 : w1.cell? ⟨w.heap.size, 1, none⟩ = some (.int .i64 0) := by rw [hb1.cell (by simp)]; simp
  have d2 : w1.cell? ⟨w.heap.size, 2, none⟩ = some (.pointer none) := by rw [hb1.cell (by simp)]; simp
  have fz : ∀ i, w1.frozen? ⟨w.heap.size, i, none⟩ = false := by intro i; rw [hb1.frozen (by simp)]; simp
  go_wp2_with fail
  refine (H.out w1 hb0).mono ?_
  rintro e w2 ⟨rfl, hb2⟩
  have g0 := cell_later hb2 d0
  have g1 := cell_later hb2 d1
  have g2 := cell_later hb2 d2
  have f0 : ∀ i, w2.frozen? ⟨w.heap.size, i, none⟩ = false := by intro i; rw [hb2.frozen hz]; exact fz i
  clear d0 d1 d2 fz
  go_wp2
  refine bodyPost_ret (v := .agg #[.int .u64 rn, .int .i64 rx, .pointer none]) (res_time Yba.results21 rfl (by go_simp) (by go_simp) (by go_simp)) rfl ⟨rfl, ?_⟩
  exact (((hb0.trans (hb2.mono (by omega))).setCell (Nat.le_refl _) _).setCell (Nat.le_refl _) _).setCell (Nat.le_refl _) _

theorem add_ex (n x d : Int) (h0 : 0 ≤ n) (h1 : n < 1000000000) (hx0 : -900000000000 ≤ x) (hx1 : x ≤ 900000000000) (hd0 : -9223372036854775808 ≤ d) (hd1 : d ≤ 9223372036854775807) :
    ∃ n' x' : Int, Hid (n' = (n + d) % 1000000000 ∧ x' = x + (n + d) / 1000000000) ∧ Hid (∀ w, Calls Yba.prog 11 #[.agg #[.int .u64 n, .int .i64 x, .pointer none], .int .i64 d] w fun e w' => e = .returned (.agg #[.int .u64 n', .int .i64 x', .pointer none]) ∧ w' = (w.alloc (.cells #[.int .u64 n', .int .i64 x', .pointer none] 28)).alloc (.cells #[.int .u64 n', .int .i64 x', .pointer none] 28)) :=
  ⟨_, _, ⟨rfl, rfl⟩, fun w => add_eq n x d w h0 h1 hx0 hx1 hd0 hd1⟩

theorem node_82 (f : Value) (iv rn rx sn sx : Int) (od : Bool) : (Array.foldl (fun cs x => cs.setIfInBounds (82 + x.snd) x.fst) (Yba.zeroCells95.setIfInBounds 74 f) ((((((((((Yba.zeroCells93.setIfInBounds 0 (Value.int IntKind.i64 iv)).setIfInBounds 1 (Value.int IntKind.i64 0)).setIfInBounds 2 (Value.int IntKind.i64 0)).setIfInBounds 5 (Value.int IntKind.u64 rn)).setIfInBounds 6 (Value.int IntKind.i64 rx)).setIfInBounds 7 (Value.pointer none)).setIfInBounds 74 (Value.int IntKind.u64 sn)).setIfInBounds 75 (Value.int IntKind.i64 sx)).setIfInBounds 76 (Value.pointer none)).setIfInBounds 77 (Value.bool od)).zipIdx 0 83)[82]? = some (.int .i64 iv) := by kernel_rfl
theorem node_87 (f : Value) (iv rn rx sn sx : Int) (od : Bool) : (Array.foldl (fun cs x => cs.setIfInBounds (82 + x.snd) x.fst) (Yba.zeroCells95.setIfInBounds 74 f) ((((((((((Yba.zeroCells93.setIfInBounds 0 (Value.int IntKind.i64 iv)).setIfInBounds 1 (Value.int IntKind.i64 0)).setIfInBounds 2 (Value.int IntKind.i64 0)).setIfInBounds 5 (Value.int IntKind.u64 rn)).setIfInBounds 6 (Value.int IntKind.i64 rx)).setIfInBounds 7 (Value.pointer none)).setIfInBounds 74 (Value.int IntKind.u64 sn)).setIfInBounds 75 (Value.int IntKind.i64 sx)).setIfInBounds 76 (Value.pointer none)).setIfInBounds 77 (Value.bool od)).zipIdx 0 83)[87]? = some (.int .u64 rn) := by kernel_rfl
theorem node_88 (f : Value) (iv rn rx sn sx : Int) (od : Bool) : (Array.foldl (fun cs x => cs.setIfInBounds (82 + x.snd) x.fst) (Yba.zeroCells95.setIfInBounds 74 f) ((((((((((Yba.zeroCells93.setIfInBounds 0 (Value.int IntKind.i64 iv)).setIfInBounds 1 (Value.int IntKind.i64 0)).setIfInBounds 2 (Value.int IntKind.i64 0)).setIfInBounds 5 (Value.int IntKind.u64 rn)).setIfInBounds 6 (Value.int IntKind.i64 rx)).setIfInBounds 7 (Value.pointer none)).setIfInBounds 74 (Value.int IntKind.u64 sn)).setIfInBounds 75 (Value.int IntKind.i64 sx)).setIfInBounds 76 (Value.pointer none)).setIfInBounds 77 (Value.bool od)).zipIdx 0 83)[88]? = some (.int .i64 rx) := by kernel_rfl
theorem node_89 (f : Value) (iv rn rx sn sx : Int) (od : Bool) : (Array.foldl (fun cs x => cs.setIfInBounds (82 + x.snd) x.fst) (Yba.zeroCells95.setIfInBounds 74 f) ((((((((((Yba.zeroCells93.setIfInBounds 0 (Value.int IntKind.i64 iv)).setIfInBounds 1 (Value.int IntKind.i64 0)).setIfInBounds 2 (Value.int IntKind.i64 0)).setIfInBounds 5 (Value.int IntKind.u64 rn)).setIfInBounds 6 (Value.int IntKind.i64 rx)).setIfInBounds 7 (Value.pointer none)).setIfInBounds 74 (Value.int IntKind.u64 sn)).setIfInBounds 75 (Value.int IntKind.i64 sx)).setIfInBounds 76 (Value.pointer none)).setIfInBounds 77 (Value.bool od)).zipIdx 0 83)[89]? = some (.pointer none) := by kernel_rfl
theorem node_156 (f : Value) (iv rn rx sn sx : Int) (od : Bool) : (Array.foldl (fun cs x => cs.setIfInBounds (82 + x.snd) x.fst) (Yba.zeroCells95.setIfInBounds 74 f) ((((((((((Yba.zeroCells93.setIfInBounds 0 (Value.int IntKind.i64 iv)).setIfInBounds 1 (Value.int IntKind.i64 0)).setIfInBounds 2 (Value.int IntKind.i64 0)).setIfInBounds 5 (Value.int IntKind.u64 rn)).setIfInBounds 6 (Value.int IntKind.i64 rx)).setIfInBounds 7 (Value.pointer none)).setIfInBounds 74 (Value.int IntKind.u64 sn)).setIfInBounds 75 (Value.int IntKind.i64 sx)).setIfInBounds 76 (Value.pointer none)).setIfInBounds 77 (Value.bool od)).zipIdx 0 83)[156]? = some (.int .u64 sn) := by kernel_rfl
theorem node_157 (f : Value) (iv rn rx sn sx : Int) (od : Bool) : (Array.foldl (fun cs x => cs.setIfInBounds (82 + x.snd) x.fst) (Yba.zeroCells95.setIfInBounds 74 f) ((((((((((Yba.zeroCells93.setIfInBounds 0 (Value.int IntKind.i64 iv)).setIfInBounds 1 (Value.int IntKind.i64 0)).setIfInBounds 2 (Value.int IntKind.i64 0)).setIfInBounds 5 (Value.int IntKind.u64 rn)).setIfInBounds 6 (Value.int IntKind.i64 rx)).setIfInBounds 7 (Value.pointer none)).setIfInBounds 74 (Value.int IntKind.u64 sn)).setIfInBounds 75 (Value.int IntKind.i64 sx)).setIfInBounds 76 (Value.pointer none)).setIfInBounds 77 (Value.bool od)).zipIdx 0 83)[157]? = some (.int .i64 sx) := by kernel_rfl
theorem node_158 (f : Value) (iv rn rx sn sx : Int) (od : Bool) : (Array.foldl (fun cs x => cs.setIfInBounds (82 + x.snd) x.fst) (Yba.zeroCells95.setIfInBounds 74 f) ((((((((((Yba.zeroCells93.setIfInBounds 0 (Value.int IntKind.i64 iv)).setIfInBounds 1 (Value.int IntKind.i64 0)).setIfInBounds 2 (Value.int IntKind.i64 0)).setIfInBounds 5 (Value.int IntKind.u64 rn)).setIfInBounds 6 (Value.int IntKind.i64 rx)).setIfInBounds 7 (Value.pointer none)).setIfInBounds 74 (Value.int IntKind.u64 sn)).setIfInBounds 75 (Value.int IntKind.i64 sx)).setIfInBounds 76 (Value.pointer none)).setIfInBounds 77 (Value.bool od)).zipIdx 0 83)[158]? = some (.pointer none) := by kernel_rfl
theorem node_159 (f : Value) (iv rn rx sn sx : Int) (od : Bool) : (Array.foldl (fun cs x => cs.setIfInBounds (82 + x.snd) x.fst) (Yba.zeroCells95.setIfInBounds 74 f) ((((((((((Yba.zeroCells93.setIfInBounds 0 (Value.int IntKind.i64 iv)).setIfInBounds 1 (Value.int IntKind.i64 0)).setIfInBounds 2 (Value.int IntKind.i64 0)).setIfInBounds 5 (Value.int IntKind.u64 rn)).setIfInBounds 6 (Value.int IntKind.i64 rx)).setIfInBounds 7 (Value.pointer none)).setIfInBounds 74 (Value.int IntKind.u64 sn)).setIfInBounds 75 (Value.int IntKind.i64 sx)).setIfInBounds 76 (Value.pointer none)).setIfInBounds 77 (Value.bool od)).zipIdx 0 83)[159]? = some (.bool od) := by kernel_rfl
theorem node_161 (f : Value) (iv rn rx sn sx : Int) (od : Bool) : (Array.foldl (fun cs x => cs.setIfInBounds (82 + x.snd) x.fst) (Yba.zeroCells95.setIfInBounds 74 f) ((((((((((Yba.zeroCells93.setIfInBounds 0 (Value.int IntKind.i64 iv)).setIfInBounds 1 (Value.int IntKind.i64 0)).setIfInBounds 2 (Value.int IntKind.i64 0)).setIfInBounds 5 (Value.int IntKind.u64 rn)).setIfInBounds 6 (Value.int IntKind.i64 rx)).setIfInBounds 7 (Value.pointer none)).setIfInBounds 74 (Value.int IntKind.u64 sn)).setIfInBounds 75 (Value.int IntKind.i64 sx)).setIfInBounds 76 (Value.pointer none)).setIfInBounds 77 (Value.bool od)).zipIdx 0 83)[161]? = some (.pointer none) := by kernel_rfl
theorem node_162 (f : Value) (iv rn rx sn sx : Int) (od : Bool) : (Array.foldl (fun cs x => cs.setIfInBounds (82 + x.snd) x.fst) (Yba.zeroCells95.setIfInBounds 74 f) ((((((((((Yba.zeroCells93.setIfInBounds 0 (Value.int IntKind.i64 iv)).setIfInBounds 1 (Value.int IntKind.i64 0)).setIfInBounds 2 (Value.int IntKind.i64 0)).setIfInBounds 5 (Value.int IntKind.u64 rn)).setIfInBounds 6 (Value.int IntKind.i64 rx)).setIfInBounds 7 (Value.pointer none)).setIfInBounds 74 (Value.int IntKind.u64 sn)).setIfInBounds 75 (Value.int IntKind.i64 sx)).setIfInBounds 76 (Value.pointer none)).setIfInBounds 77 (Value.bool od)).zipIdx 0 83)[162]? = some (.slice none 0 0) := by kernel_rfl

/-- What Due answers in a round: the cells of the node's estimator as the law lays them. -/
theorem due_law (b : Nat) (n x iv m y : Int) (od : Bool) (w : World) (hb : b < w.heap.size) (hnz : n ≠ 0 ∨ x ≠ 0) (h0 : 0 ≤ n) (h1 : n < 1000000000) (hx0 : -900000000000 ≤ x) (hx1 : x ≤ 900000000000) (hd0 : -9223372036854775808 ≤ iv) (hd1 : iv ≤ 9223372036854775807)
    (g0 : 0 ≤ m) (g1 : m < 1000000000)
    (ci : w.cell? ⟨b, 82, none⟩ = some (.int .i64 iv))
    (r0 : w.cell? ⟨b, 87, none⟩ = some (.int .u64 n)) (r1 : w.cell? ⟨b, 88, none⟩ = some (.int .i64 x)) (r2 : w.cell? ⟨b, 89, none⟩ = some (.pointer none))
    (s0 : w.cell? ⟨b, 156, none⟩ = some (.int .u64 m)) (s1 : w.cell? ⟨b, 157, none⟩ = some (.int .i64 y)) (s2 : w.cell? ⟨b, 158, none⟩ = some (.pointer none))
    (cd : w.cell? ⟨b, 159, none⟩ = some (.bool od))
    (cb : w.cell? ⟨b, 161, none⟩ = some (.pointer none)) (hl : w.cell? ⟨b, 162, none⟩ = some (.slice none 0 0)) :
    Calls Yba.prog 21 #[.pointer (some ⟨b, 0, none⟩)] w fun e w' =>
      e = .returned (.agg #[.int .u64 (if od && bef m y ((n + iv) % 1000000000) (x + (n + iv) / 1000000000) then m else (n + iv) % 1000000000), .int .i64 (if od && bef m y ((n + iv) % 1000000000) (x + (n + iv) / 1000000000) then y else x + (n + iv) / 1000000000), .pointer none]) ∧ Below w.heap.size w w' := by
  refine due_round b n x _ _ w hb hnz r0 r1 r2 ?_
  intro W hW
  cases od with
  | false => exact due_no b 82 n x iv W (Nat.lt_of_lt_of_le hb hW.size) h0 h1 hx0 hx1 hd0 hd1 (cell_later hW ci) (cell_later hW r0) (cell_later hW r1) (cell_later hW r2) (cell_later hW cd) (cell_later hW cb) (cell_later hW hl)
  | true =>
    cases hbf : bef m y ((n + iv) % 1000000000) (x + (n + iv) / 1000000000) with
    | true => exact due_yes_own b 82 n x iv m y W (Nat.lt_of_lt_of_le hb hW.size) h0 h1 hx0 hx1 hd0 hd1 g0 g1 (cell_later hW ci) (cell_later hW r0) (cell_later hW r1) (cell_later hW r2) (cell_later hW s0) (cell_later hW s1) (cell_later hW s2) (cell_later hW cd) (cell_later hW cb) (cell_later hW hl) hbf
    | false => exact due_yes_not b 82 n x iv m y W (Nat.lt_of_lt_of_le hb hW.size) h0 h1 hx0 hx1 hd0 hd1 g0 g1 (cell_later hW ci) (cell_later hW r0) (cell_later hW r1) (cell_later hW r2) (cell_later hW s0) (cell_later hW s1) (cell_later hW s2) (cell_later hW cd) (cell_later hW cb) (cell_later hW hl) hbf

set_option maxHeartbeats 2000000 in
theorem round_walk (r iv os : Int) (od : Bool) (x : Int) (w : World) (l0 : -9223372036854775808 ≤ (r : Int)) (u0 : (r : Int) ≤ 9223372036854775807) (l1 : -9223372036854775808 ≤ iv) (u1 : iv ≤ 9223372036854775807) (l2 : -9223372036854775808 ≤ os) (u2 : os ≤ 9223372036854775807) (hr : (r == 0) = false) :
    Calls Yba.prog 6 #[.int .i64 r, .int .i64 iv, .int .i64 os, .bool od, .int .i64 x] w fun e w' => e = .returned (.bool true) ∧ Below w.heap.size w w' := by
  have hmf : ∀ (fn : Fn) (first cap : Array Value) (w : World), (Instr.makeFunc fn first cap).run Yba.prog w = .ok (.func fn first cap) w := fun _ _ _ _ => rfl
  obtain ⟨rn, rx, HR, HA⟩ := add_ex 0 0 r (by omega) (by omega) (by omega) (by omega) l0 u0
  obtain ⟨sn, sx, HS, HB⟩ := add_ex 0 0 os (by omega) (by omega) (by omega) (by omega) l2 u2
  have rn0 : 0 ≤ rn := by have := HR.out; omega
  have rn1 : rn < 1000000000 := by have := HR.out; omega
  have rx0 : -900000000000 ≤ rx := by have := HR.out; omega
  have rx1 : rx ≤ 900000000000 := by have := HR.out; omega
  have sn0 : 0 ≤ sn := by have := HS.out; omega
  have sn1 : sn < 1000000000 := by have := HS.out; omega
  have HNZ : Hid (rn ≠ 0 ∨ rx ≠ 0) := by have := HR.out; have h3 : r ≠ 0 := (by simpa using hr); show rn ≠ 0 ∨ rx ≠ 0; omega
  clear HR HS
  go_enter Yba.func6, Yba.ntmps6
  go_wp2_with fail
  refine (HA.out _).mono ?_
  rintro e w1 ⟨rfl, rfl⟩
  go_wp2_with fail
  refine (HB.out _).mono ?_
  rintro e w1 ⟨rfl, rfl⟩
  go_wp2_with fail
  generalize hN : (Array.foldl _ _ _ 0 83) = N
  have n82 : N[82]? = some (.int .i64 iv) := by rw [← hN]; exact node_82 _ _ _ _ _ _ _
  have n87 : N[87]? = some (.int .u64 rn) := by rw [← hN]; exact node_87 _ _ _ _ _ _ _
  have n88 : N[88]? = some (.int .i64 rx) := by rw [← hN]; exact node_88 _ _ _ _ _ _ _
  have n89 : N[89]? = some (.pointer none) := by rw [← hN]; exact node_89 _ _ _ _ _ _ _
  have n156 : N[156]? = some (.int .u64 sn) := by rw [← hN]; exact node_156 _ _ _ _ _ _ _
  have n157 : N[157]? = some (.int .i64 sx) := by rw [← hN]; exact node_157 _ _ _ _ _ _ _
  have n158 : N[158]? = some (.pointer none) := by rw [← hN]; exact node_158 _ _ _ _ _ _ _
  have n159 : N[159]? = some (.bool od) := by rw [← hN]; exact node_159 _ _ _ _ _ _ _
  have n161 : N[161]? = some (.pointer none) := by rw [← hN]; exact node_161 _ _ _ _ _ _ _
  have n162 : N[162]? = some (.slice none 0 0) := by rw [← hN]; exact node_162 _ _ _ _ _ _ _
  clear hN
  generalize hW : World.alloc _ (Obj.cells N 95) = W
  have hz : W.heap.size = w.heap.size + 1 + 1 + 1 + 1 + 1 + 1 + 1 + 1 + 1 := by rw [← hW]; simp only [World.size_alloc]
  have BW : Below w.heap.size w W := by rw [← hW]; exact (by repeat (first | exact Below.refl _ _ | refine Below.alloc ?_ (by simp <;> omega) _))
  have k0 : W.cell? ⟨w.heap.size + 1, 0, none⟩ = some (.int .i64 0) := by rw [← hW]; clear hW; go_simp
  have a0 : W.cell? ⟨w.heap.size + 1 + 1 + 1 + 1, 0, none⟩ = some (.int .u64 rn) := by rw [← hW]; clear hW; go_simp
  have a1 : W.cell? ⟨w.heap.size + 1 + 1 + 1 + 1, 1, none⟩ = some (.int .i64 rx) := by rw [← hW]; clear hW; go_simp
  have a2 : W.cell? ⟨w.heap.size + 1 + 1 + 1 + 1, 2, none⟩ = some (.pointer none) := by rw [← hW]; clear hW; go_simp
  have b0 : W.cell? ⟨w.heap.size + 1 + 1 + 1 + 1 + 1 + 1 + 1, 0, none⟩ = some (.int .u64 sn) := by rw [← hW]; clear hW; go_simp
  have b1 : W.cell? ⟨w.heap.size + 1 + 1 + 1 + 1 + 1 + 1 + 1, 1, none⟩ = some (.int .i64 sx) := by rw [← hW]; clear hW; go_simp
  have b2 : W.cell? ⟨w.heap.size + 1 + 1 + 1 + 1 + 1 + 1 + 1, 2, none⟩ = some (.pointer none) := by rw [← hW]; clear hW; go_simp
  have m : ∀ j v, N[j]? = some v → W.cell? ⟨w.heap.size + 1 + 1 + 1 + 1 + 1 + 1 + 1 + 1, j, none⟩ = some v := by intro j v h; rw [← hW, World.cell?_alloc_at _ _ _ _ (by simp)]; exact h
  clear hW
  refine (due_law (w.heap.size + 1 + 1 + 1 + 1 + 1 + 1 + 1 + 1) rn rx iv sn sx od W (by omega) HNZ.out rn0 rn1 rx0 rx1 l1 u1 sn0 sn1 (m _ _ n82) (m _ _ n87) (m _ _ n88) (m _ _ n89) (m _ _ n156) (m _ _ n157) (m _ _ n158) (m _ _ n159) (m _ _ n161) (m _ _ n162)).mono ?_
  clear n82 n87 n88 n89 n156 n157 n158 n159 n161 n162 m
  obtain ⟨en, ex, HE, HC⟩ := add_ex rn rx iv rn0 rn1 rx0 rx1 l1 u1
  have en0 : 0 ≤ en := by have := HE.out; omega
  have en1 : en < 1000000000 := by have := HE.out; omega
  rw [← HE.out.1, ← HE.out.2]
  clear HE
  rintro e W2 ⟨rfl, B2⟩
  have k2 := cell_later B2 k0
  have a20 := cell_later B2 a0
  have a21 := cell_later B2 a1
  have a22 := cell_later B2 a2
  have b20 := cell_later B2 b0
  have b21 := cell_later B2 b1
  have b22 := cell_later B2 b2
  have hz2 : W.heap.size ≤ W2.heap.size := B2.size
  have y1 : w.heap.size + 1 < W2.heap.size := by omega
  have y2 : w.heap.size + 1 + 1 + 1 + 1 < W2.heap.size := by omega
  have y3 : w.heap.size + 1 + 1 + 1 + 1 + 1 + 1 + 1 < W2.heap.size := by omega
  have y1_1 : w.heap.size + 1 < W2.heap.size + 1 := by omega
  have y1_2 : w.heap.size + 1 < W2.heap.size + 1 + 1 := by omega
  have y1_3 : w.heap.size + 1 < W2.heap.size + 1 + 1 + 1 := by omega
  have y1_4 : w.heap.size + 1 < W2.heap.size + 1 + 1 + 1 + 1 := by omega
  have y1_5 : w.heap.size + 1 < W2.heap.size + 1 + 1 + 1 + 1 + 1 := by omega
  have y1_6 : w.heap.size + 1 < W2.heap.size + 1 + 1 + 1 + 1 + 1 + 1 := by omega
  have y1_7 : w.heap.size + 1 < W2.heap.size + 1 + 1 + 1 + 1 + 1 + 1 + 1 := by omega
  have y2_1 : w.heap.size + 1 + 1 + 1 + 1 < W2.heap.size + 1 := by omega
  have y2_2 : w.heap.size + 1 + 1 + 1 + 1 < W2.heap.size + 1 + 1 := by omega
  have y2_3 : w.heap.size + 1 + 1 + 1 + 1 < W2.heap.size + 1 + 1 + 1 := by omega
  have y2_4 : w.heap.size + 1 + 1 + 1 + 1 < W2.heap.size + 1 + 1 + 1 + 1 := by omega
  have y2_5 : w.heap.size + 1 + 1 + 1 + 1 < W2.heap.size + 1 + 1 + 1 + 1 + 1 := by omega
  have y2_6 : w.heap.size + 1 + 1 + 1 + 1 < W2.heap.size + 1 + 1 + 1 + 1 + 1 + 1 := by omega
  have y2_7 : w.heap.size + 1 + 1 + 1 + 1 < W2.heap.size + 1 + 1 + 1 + 1 + 1 + 1 + 1 := by omega
  have y3_1 : w.heap.size + 1 + 1 + 1 + 1 + 1 + 1 + 1 < W2.heap.size + 1 := by omega
  have y3_2 : w.heap.size + 1 + 1 + 1 + 1 + 1 + 1 + 1 < W2.heap.size + 1 + 1 := by omega
  have y3_3 : w.heap.size + 1 + 1 + 1 + 1 + 1 + 1 + 1 < W2.heap.size + 1 + 1 + 1 := by omega
  have y3_4 : w.heap.size + 1 + 1 + 1 + 1 + 1 + 1 + 1 < W2.heap.size + 1 + 1 + 1 + 1 := by omega
  have y3_5 : w.heap.size + 1 + 1 + 1 + 1 + 1 + 1 + 1 < W2.heap.size + 1 + 1 + 1 + 1 + 1 := by omega
  have y3_6 : w.heap.size + 1 + 1 + 1 + 1 + 1 + 1 + 1 < W2.heap.size + 1 + 1 + 1 + 1 + 1 + 1 := by omega
  have y3_7 : w.heap.size + 1 + 1 + 1 + 1 + 1 + 1 + 1 < W2.heap.size + 1 + 1 + 1 + 1 + 1 + 1 + 1 := by omega
  have BW2 : Below w.heap.size w W2 := BW.trans (B2.mono (by omega))
  have hwW : w.heap.size ≤ W2.heap.size := BW2.size
  clear k0 a0 a1 a2 b0 b1 b2 hz hz2 B2 BW
  cases od with
  | false =>
    simp only [Bool.false_and, Bool.false_eq_true, if_false]
    go_wp2_with fail
    refine (HC.out _).mono ?_
    rintro e w1 ⟨rfl, rfl⟩
    go_wp2_with fail
    refine (equal_same en ex _ en0 en1).mono ?_
    rintro e w4 ⟨rfl, hb4⟩
    go_wp2
    go_ret
    exact ⟨rfl, Below.trans (by repeat (first | exact BW2 | refine Below.drew ?_ | refine below_drewN ?_ _ | refine Below.alloc ?_ (by first | omega | (simp; omega)) _ | refine Below.setCell ?_ (by first | omega | (simp; omega)) _)) (hb4.mono (by first | omega | (simp; omega)))⟩
  | true =>
    cases hbf : bef sn sx en ex with
    | false =>
      simp only [hbf, Bool.and_false, Bool.false_eq_true, if_false]
      go_wp2_with fail
      refine (HC.out _).mono ?_
      rintro e w1 ⟨rfl, rfl⟩
      go_wp2_with fail
      refine (before_eq sn sx en ex _ sn0 sn1 en0 en1).mono ?_
      rintro e w1 ⟨rfl, rfl⟩
      go_wp2_with fail
      refine (equal_same en ex _ en0 en1).mono ?_
      rintro e w4 ⟨rfl, hb4⟩
      go_wp2
      go_ret
      exact ⟨rfl, Below.trans (by repeat (first | exact BW2 | refine Below.drew ?_ | refine below_drewN ?_ _ | refine Below.alloc ?_ (by first | omega | (simp; omega)) _ | refine Below.setCell ?_ (by first | omega | (simp; omega)) _)) (hb4.mono (by first | omega | (simp; omega)))⟩
    | true =>
      simp only [hbf, Bool.and_true, if_true]
      go_wp2_with fail
      refine (HC.out _).mono ?_
      rintro e w1 ⟨rfl, rfl⟩
      go_wp2_with fail
      refine (before_eq sn sx en ex _ sn0 sn1 en0 en1).mono ?_
      rintro e w1 ⟨rfl, rfl⟩
      go_wp2_with fail
      refine (equal_same sn sx _ sn0 sn1).mono ?_
      rintro e w4 ⟨rfl, hb4⟩
      go_wp2
      go_ret
      exact ⟨rfl, Below.trans (by repeat (first | exact BW2 | refine Below.drew ?_ | refine below_drewN ?_ _ | refine Below.alloc ?_ (by first | omega | (simp; omega)) _ | refine Below.setCell ?_ (by first | omega | (simp; omega)) _)) (hb4.mono (by first | omega | (simp; omega)))⟩

set_option maxHeartbeats 2000000 in
theorem round_walk0 (iv os : Int) (od : Bool) (x : Int) (w : World) (l0 : -9223372036854775808 ≤ (1 : Int)) (u0 : (1 : Int) ≤ 9223372036854775807) (l1 : -9223372036854775808 ≤ iv) (u1 : iv ≤ 9223372036854775807) (l2 : -9223372036854775808 ≤ os) (u2 : os ≤ 9223372036854775807) :
    Calls Yba.prog 6 #[.int .i64 0, .int .i64 iv, .int .i64 os, .bool od, .int .i64 x] w fun e w' => e = .returned (.bool true) ∧ Below w.heap.size w w' := by
  have hmf : ∀ (fn : Fn) (first cap : Array Value) (w : World), (Instr.makeFunc fn first cap).run Yba.prog w = .ok (.func fn first cap) w := fun _ _ _ _ => rfl
  obtain ⟨rn, rx, HR, HA⟩ := add_ex 0 0 1 (by omega) (by omega) (by omega) (by omega) l0 u0
  obtain ⟨sn, sx, HS, HB⟩ := add_ex 0 0 os (by omega) (by omega) (by omega) (by omega) l2 u2
  have rn0 : 0 ≤ rn := by have := HR.out; omega
  have rn1 : rn < 1000000000 := by have := HR.out; omega
  have rx0 : -900000000000 ≤ rx := by have := HR.out; omega
  have rx1 : rx ≤ 900000000000 := by have := HR.out; omega
  have sn0 : 0 ≤ sn := by have := HS.out; omega
  have sn1 : sn < 1000000000 := by have := HS.out; omega
  have HNZ : Hid (rn ≠ 0 ∨ rx ≠ 0) := by have := HR.out; show rn ≠ 0 ∨ rx ≠ 0; omega
  clear HR HS
  go_enter Yba.func6, Yba.ntmps6
  go_wp2_with fail
  refine (HA.out _).mono ?_
  rintro e w1 ⟨rfl, rfl⟩
  go_wp2_with fail
  refine (HB.out _).mono ?_
  rintro e w1 ⟨rfl, rfl⟩
  go_wp2_with fail
  generalize hN : (Array.foldl _ _ _ 0 83) = N
  have n82 : N[82]? = some (.int .i64 iv) := by rw [← hN]; exact node_82 _ _ _ _ _ _ _
  have n87 : N[87]? = some (.int .u64 rn) := by rw [← hN]; exact node_87 _ _ _ _ _ _ _
  have n88 : N[88]? = some (.int .i64 rx) := by rw [← hN]; exact node_88 _ _ _ _ _ _ _
  have n89 : N[89]? = some (.pointer none) := by rw [← hN]; exact node_89 _ _ _ _ _ _ _
  have n156 : N[156]? = some (.int .u64 sn) := by rw [← hN]; exact node_156 _ _ _ _ _ _ _
  have n157 : N[157]? = some (.int .i64 sx) := by rw [← hN]; exact node_157 _ _ _ _ _ _ _
  have n158 : N[158]? = some (.pointer none) := by rw [← hN]; exact node_158 _ _ _ _ _ _ _
  have n159 : N[159]? = some (.bool od) := by rw [← hN]; exact node_159 _ _ _ _ _ _ _
  have n161 : N[161]? = some (.pointer none) := by rw [← hN]; exact node_161 _ _ _ _ _ _ _
  have n162 : N[162]? = some (.slice none 0 0) := by rw [← hN]; exact node_162 _ _ _ _ _ _ _
  clear hN
  generalize hW : World.alloc _ (Obj.cells N 95) = W
  have hz : W.heap.size = w.heap.size + 1 + 1 + 1 + 1 + 1 + 1 + 1 + 1 + 1 := by rw [← hW]; simp only [World.size_alloc]
  have BW : Below w.heap.size w W := by rw [← hW]; exact (by repeat (first | exact Below.refl _ _ | refine Below.alloc ?_ (by simp <;> omega) _))
  have k0 : W.cell? ⟨w.heap.size + 1, 0, none⟩ = some (.int .i64 0) := by rw [← hW]; clear hW; go_simp
  have a0 : W.cell? ⟨w.heap.size + 1 + 1 + 1 + 1, 0, none⟩ = some (.int .u64 rn) := by rw [← hW]; clear hW; go_simp
  have a1 : W.cell? ⟨w.heap.size + 1 + 1 + 1 + 1, 1, none⟩ = some (.int .i64 rx) := by rw [← hW]; clear hW; go_simp
  have a2 : W.cell? ⟨w.heap.size + 1 + 1 + 1 + 1, 2, none⟩ = some (.pointer none) := by rw [← hW]; clear hW; go_simp
  have b0 : W.cell? ⟨w.heap.size + 1 + 1 + 1 + 1 + 1 + 1 + 1, 0, none⟩ = some (.int .u64 sn) := by rw [← hW]; clear hW; go_simp
  have b1 : W.cell? ⟨w.heap.size + 1 + 1 + 1 + 1 + 1 + 1 + 1, 1, none⟩ = some (.int .i64 sx) := by rw [← hW]; clear hW; go_simp
  have b2 : W.cell? ⟨w.heap.size + 1 + 1 + 1 + 1 + 1 + 1 + 1, 2, none⟩ = some (.pointer none) := by rw [← hW]; clear hW; go_simp
  have m : ∀ j v, N[j]? = some v → W.cell? ⟨w.heap.size + 1 + 1 + 1 + 1 + 1 + 1 + 1 + 1, j, none⟩ = some v := by intro j v h; rw [← hW, World.cell?_alloc_at _ _ _ _ (by simp)]; exact h
  clear hW
  refine (due_law (w.heap.size + 1 + 1 + 1 + 1 + 1 + 1 + 1 + 1) rn rx iv sn sx od W (by omega) HNZ.out rn0 rn1 rx0 rx1 l1 u1 sn0 sn1 (m _ _ n82) (m _ _ n87) (m _ _ n88) (m _ _ n89) (m _ _ n156) (m _ _ n157) (m _ _ n158) (m _ _ n159) (m _ _ n161) (m _ _ n162)).mono ?_
  clear n82 n87 n88 n89 n156 n157 n158 n159 n161 n162 m
  obtain ⟨en, ex, HE, HC⟩ := add_ex rn rx iv rn0 rn1 rx0 rx1 l1 u1
  have en0 : 0 ≤ en := by have := HE.out; omega
  have en1 : en < 1000000000 := by have := HE.out; omega
  rw [← HE.out.1, ← HE.out.2]
  clear HE
  rintro e W2 ⟨rfl, B2⟩
  have k2 := cell_later B2 k0
  have a20 := cell_later B2 a0
  have a21 := cell_later B2 a1
  have a22 := cell_later B2 a2
  have b20 := cell_later B2 b0
  have b21 := cell_later B2 b1
  have b22 := cell_later B2 b2
  have hz2 : W.heap.size ≤ W2.heap.size := B2.size
  have y1 : w.heap.size + 1 < W2.heap.size := by omega
  have y2 : w.heap.size + 1 + 1 + 1 + 1 < W2.heap.size := by omega
  have y3 : w.heap.size + 1 + 1 + 1 + 1 + 1 + 1 + 1 < W2.heap.size := by omega
  have y1_1 : w.heap.size + 1 < W2.heap.size + 1 := by omega
  have y1_2 : w.heap.size + 1 < W2.heap.size + 1 + 1 := by omega
  have y1_3 : w.heap.size + 1 < W2.heap.size + 1 + 1 + 1 := by omega
  have y1_4 : w.heap.size + 1 < W2.heap.size + 1 + 1 + 1 + 1 := by omega
  have y1_5 : w.heap.size + 1 < W2.heap.size + 1 + 1 + 1 + 1 + 1 := by omega
  have y1_6 : w.heap.size + 1 < W2.heap.size + 1 + 1 + 1 + 1 + 1 + 1 := by omega
  have y1_7 : w.heap.size + 1 < W2.heap.size + 1 + 1 + 1 + 1 + 1 + 1 + 1 := by omega
  have y2_1 : w.heap.size + 1 + 1 + 1 + 1 < W2.heap.size + 1 := by omega
  have y2_2 : w.heap.size + 1 + 1 + 1 + 1 < W2.heap.size + 1 + 1 := by omega
  have y2_3 : w.heap.size + 1 + 1 + 1 + 1 < W2.heap.size + 1 + 1 + 1 := by omega
  have y2_4 : w.heap.size + 1 + 1 + 1 + 1 < W2.heap.size + 1 + 1 + 1 + 1 := by omega
  have y2_5 : w.heap.size + 1 + 1 + 1 + 1 < W2.heap.size + 1 + 1 + 1 + 1 + 1 := by omega
  have y2_6 : w.heap.size + 1 + 1 + 1 + 1 < W2.heap.size + 1 + 1 + 1 + 1 + 1 + 1 := by omega
  have y2_7 : w.heap.size + 1 + 1 + 1 + 1 < W2.heap.size + 1 + 1 + 1 + 1 + 1 + 1 + 1 := by omega
  have y3_1 : w.heap.size + 1 + 1 + 1 + 1 + 1 + 1 + 1 < W2.heap.size + 1 := by omega
  have y3_2 : w.heap.size + 1 + 1 + 1 + 1 + 1 + 1 + 1 < W2.heap.size + 1 + 1 := by omega
  have y3_3 : w.heap.size + 1 + 1 + 1 + 1 + 1 + 1 + 1 < W2.heap.size + 1 + 1 + 1 := by omega
  have y3_4 : w.heap.size + 1 + 1 + 1 + 1 + 1 + 1 + 1 < W2.heap.size + 1 + 1 + 1 + 1 := by omega
  have y3_5 : w.heap.size + 1 + 1 + 1 + 1 + 1 + 1 + 1 < W2.heap.size + 1 + 1 + 1 + 1 + 1 := by omega
  have y3_6 : w.heap.size + 1 + 1 + 1 + 1 + 1 + 1 + 1 < W2.heap.size + 1 + 1 + 1 + 1 + 1 + 1 := by omega
  have y3_7 : w.heap.size + 1 + 1 + 1 + 1 + 1 + 1 + 1 < W2.heap.size + 1 + 1 + 1 + 1 + 1 + 1 + 1 := by omega
  have BW2 : Below w.heap.size w W2 := BW.trans (B2.mono (by omega))
  have hwW : w.heap.size ≤ W2.heap.size := BW2.size
  clear k0 a0 a1 a2 b0 b1 b2 hz hz2 B2 BW
  cases od with
  | false =>
    simp only [Bool.false_and, Bool.false_eq_true, if_false]
    go_wp2_with fail
    refine (HC.out _).mono ?_
    rintro e w1 ⟨rfl, rfl⟩
    go_wp2_with fail
    refine (equal_same en ex _ en0 en1).mono ?_
    rintro e w4 ⟨rfl, hb4⟩
    go_wp2
    go_ret
    exact ⟨rfl, Below.trans (by repeat (first | exact BW2 | refine Below.drew ?_ | refine below_drewN ?_ _ | refine Below.alloc ?_ (by first | omega | (simp; omega)) _ | refine Below.setCell ?_ (by first | omega | (simp; omega)) _)) (hb4.mono (by first | omega | (simp; omega)))⟩
  | true =>
    cases hbf : bef sn sx en ex with
    | false =>
      simp only [hbf, Bool.and_false, Bool.false_eq_true, if_false]
      go_wp2_with fail
      refine (HC.out _).mono ?_
      rintro e w1 ⟨rfl, rfl⟩
      go_wp2_with fail
      refine (before_eq sn sx en ex _ sn0 sn1 en0 en1).mono ?_
      rintro e w1 ⟨rfl, rfl⟩
      go_wp2_with fail
      refine (equal_same en ex _ en0 en1).mono ?_
      rintro e w4 ⟨rfl, hb4⟩
      go_wp2
      go_ret
      exact ⟨rfl, Below.trans (by repeat (first | exact BW2 | refine Below.drew ?_ | refine below_drewN ?_ _ | refine Below.alloc ?_ (by first | omega | (simp; omega)) _ | refine Below.setCell ?_ (by first | omega | (simp; omega)) _)) (hb4.mono (by first | omega | (simp; omega)))⟩
    | true =>
      simp only [hbf, Bool.and_true, if_true]
      go_wp2_with fail
      refine (HC.out _).mono ?_
      rintro e w1 ⟨rfl, rfl⟩
      go_wp2_with fail
      refine (before_eq sn sx en ex _ sn0 sn1 en0 en1).mono ?_
      rintro e w1 ⟨rfl, rfl⟩
      go_wp2_with fail
      refine (equal_same sn sx _ sn0 sn1).mono ?_
      rintro e w4 ⟨rfl, hb4⟩
      go_wp2
      go_ret
      exact ⟨rfl, Below.trans (by repeat (first | exact BW2 | refine Below.drew ?_ | refine below_drewN ?_ _ | refine Below.alloc ?_ (by first | omega | (simp; omega)) _ | refine Below.setCell ?_ (by first | omega | (simp; omega)) _)) (hb4.mono (by first | omega | (simp; omega)))⟩

end Go.Proofs.Ybulkamjs
