/- LawS1903AExpire from region 42 on: the node, its clock, two calls of Stats. -/
import Derived.Test.YbulkamjsMake
namespace Go.Proofs.Ybulkamjs
open Go.RowKit Go.Maps Go.WideMaps
set_option linter.unusedSimpArgs false
set_option linter.unusedVariables false

/-- From the region i on, down the right spine; the region may begin a pair. -/
def fromR (i : Nat) : Code → Code
  | .seq (.region j ops d) b => if j = i then .seq (.region j ops d) b else fromR i b
  | .seq (.seq (.region j ops d) c) b => if j = i then .seq (.seq (.region j ops d) c) b else fromR i b
  | .seq _ b => fromR i b
  | c => c
def ind (key : Nat → Nat) (t : Nat) : Nat → Nat := fun b => if t < key b then 1 else 0
def indS (key sz : Nat → Nat) (t : Nat) : Nat → Nat := fun b => if t < key b then sz b else 0
/-- Behind an expire: what is left is what is not due. -/
theorem left_all {key f : Nat → Nat} {n t : Nat} (hH : HeapO key f n) (hd : dv key f n t = none) : ∀ k, k < n → t < key (f k) := by
  intro k hk
  have h0 : n ≠ 0 := by omega
  have h1 : t < key (f 0) := by
    by_cases h : t < key (f 0)
    · exact h
    · simp [dv, h0, h] at hd
  have := hH.root k hk
  omega
theorem sumF_one {g f : Nat → Nat} : ∀ {n : Nat}, (∀ k, k < n → g (f k) = 1) → sumF g f n = n
  | 0, _ => rfl
  | n + 1, h => by rw [sumF, sumF_one (fun k hk => h k (by omega)), h n (by omega)]
theorem sumF_eq {g g' f : Nat → Nat} : ∀ {n : Nat}, (∀ k, k < n → g (f k) = g' (f k)) → sumF g f n = sumF g' f n
  | 0, _ => rfl
  | n + 1, h => by rw [sumF, sumF, sumF_eq (fun k hk => h k (by omega)), h n (by omega)]
theorem count_left {key f f' : Nat → Nat} {n n' t : Nat} (hH : HeapO key f' n') (hd : dv key f' n' t = none) (hs : ∀ g, (∀ b, key b ≤ t → g b = 0) → sumF g f' n' = sumF g f n) : n' = sumF (ind key t) f n := by
  have h1 := hs (ind key t) (fun b hb => by simp [ind]; omega)
  rw [← h1, sumF_one (fun k hk => by simp [ind, left_all hH hd k hk])]
theorem bytes_left {key sz f f' : Nat → Nat} {n n' t : Nat} (hH : HeapO key f' n') (hd : dv key f' n' t = none) (hs : ∀ g, (∀ b, key b ≤ t → g b = 0) → sumF g f' n' = sumF g f n) : sumF sz f' n' = sumF (indS key sz t) f n := by
  have h1 := hs (indS key sz t) (fun b hb => by simp [indS]; omega)
  rw [← h1]
  exact sumF_eq (fun k hk => by simp [indS, left_all hH hd k hk])
attribute [-simp] Yba.zeroValue40 Yba.typeInfo40
attribute [local simp] zero40
theorem eql97 (a b c d e : Int) (w : World) : (binOp .eql 97 (.agg #[.int .i64 a, .int .i64 b, .int .i64 c, .int .u64 d, .int .u64 e]) (.agg #[.int .i64 a, .int .i64 b, .int .i64 c, .int .u64 d, .int .u64 e])).run Yba.prog w = .ok (.bool true) w := by
  go_simp
theorem neq97 (a b c d e : Int) (w : World) : (binOp .neq 97 (.agg #[.int .i64 a, .int .i64 b, .int .i64 c, .int .u64 d, .int .u64 e]) (.agg #[.int .i64 a, .int .i64 b, .int .i64 c, .int .u64 d, .int .u64 e])).run Yba.prog w = .ok (.bool false) w := by
  go_simp

set_option maxRecDepth 20000 in
set_option maxHeartbeats 8000000 in
theorem aseg42 (X Xq : Nat → Array Value) (key ix sl sz keyq nu f fq : Nat → Nat) (W w : World) (B tb0 s bk mv mk cap n l bkq mn mp capq m t wV wB wL : Nat) (cp bys dr iv : Int)
    (hBW : Below B W w) (hBs : B ≤ w.heap.size) (hS : St X key ix sl sz w s bk mv mk cap n cp bys 0 f) (hL : Lk Xq keyq nu w l bkq mn mp capq m fq) (hsep : Sep mv mk mn mp) (hby : bys = sumF sz f n) (hn : n ≤ 1024) (hm : m ≤ 1024) (ht : t < 65536)
    (htb : w.heap[tb0]? = some (.cells #[.int .u64 0, .int .i64 0, .pointer none] 28 (0, 0))) (hV : wV = sumF (ind key t) f n) (hB : wB = sumF (indS key sz t) f n) (hLw : wL = sumF (ind keyq t) fq m)
    (hSO : ∀ k, StO sl s bk mv mk n f k → B ≤ k) (hLO : ∀ k, LkO l bkq mn mp m fq k → B ≤ k)
    (u0 u1 u2 u6 u7 u8 u9 u10 u11 u12 u14 u15 u19 u20 u21 u22 u23 u24 u27 u28 u29 u30 u31 u32 u33 u34 u35 u36 u37 u38 u39 u40 u41 u42 u43 u44 u45 u46 u47 u48 u49 u50 u51 u52 u53 u54 u55 u56 u57 u58 u59 u60 u61 u62 u63 u64 u65 u66 u67 u68 u69 u70 u71 u72 u73 u74 u75 u76 u77 u78 u79 u80 u81 u82 u83 u84 u85 u86 u87 u88 u89 u90 u91 u92 u93 u94 u95 u96 u97 u98 u99 u100 u101 u102 u103 u104 u105 u106 u107 u108 u109 u110 u111 u112 u113 u114 u115 u116 u117 u118 u119 u120 u121 u122 u123 u124 u125 u126 u127 u128 u129 u130 u131 u132 u133 u134 u135 u136 u137 u138 u139 u140 u141 u142 u143 u144 u145 u146 u147 u148 u149 u150 u151 u152 u153 u154 u155 u156 u157 u158 u159 u160 u161 u162 u163 u164 u165 u166 u167 u168 u169 u170 u171 u172 u173 u174 u175 u176 u177 u178 u179 u180 u181 u182 u183 u184 u185 u186 u187 u188 u189 u190 u191 u192 u193 u194 u195 u196 u197 u198 u199 u200 u201 u202 u203 u204 u205 u206 u207 u208 u209 u210 u211 u212 u213 u214 u215 u216 u217 u218 u219 u220 u221 u222 u223 u224 u225 u226 u227 u228 u229 u230 u231 u232 u233 u234 : Value) :
    (fromR 42 (Yba.f3.body.getD .skip)).wp Yba.prog (bodyPost Yba.prog Yba.f3 fun e w' => e = .returned (.bool true) ∧ Below B W w') { tmps := #[u0, u1, u2, .int .u16 t, .int .u64 dr, .int .u64 iv, u6, u7, u8, u9, u10, u11, u12, .pointer (some ⟨tb0, 0, none⟩), u14, u15, .pointer (some ⟨s, 0, none⟩), .int .i64 (wV : Nat), .int .i64 (wB : Nat), u19, u20, u21, u22, u23, u24, .pointer (some ⟨l, 0, none⟩), .int .i64 (wL : Nat), u27, u28, u29, u30, u31, u32, u33, u34, u35, u36, u37, u38, u39, u40, u41, u42, u43, u44, u45, u46, u47, u48, u49, u50, u51, u52, u53, u54, u55, u56, u57, u58, u59, u60, u61, u62, u63, u64, u65, u66, u67, u68, u69, u70, u71, u72, u73, u74, u75, u76, u77, u78, u79, u80, u81, u82, u83, u84, u85, u86, u87, u88, u89, u90, u91, u92, u93, u94, u95, u96, u97, u98, u99, u100, u101, u102, u103, u104, u105, u106, u107, u108, u109, u110, u111, u112, u113, u114, u115, u116, u117, u118, u119, u120, u121, u122, u123, u124, u125, u126, u127, u128, u129, u130, u131, u132, u133, u134, u135, u136, u137, u138, u139, u140, u141, u142, u143, u144, u145, u146, u147, u148, u149, u150, u151, u152, u153, u154, u155, u156, u157, u158, u159, u160, u161, u162, u163, u164, u165, u166, u167, u168, u169, u170, u171, u172, u173, u174, u175, u176, u177, u178, u179, u180, u181, u182, u183, u184, u185, u186, u187, u188, u189, u190, u191, u192, u193, u194, u195, u196, u197, u198, u199, u200, u201, u202, u203, u204, u205, u206, u207, u208, u209, u210, u211, u212, u213, u214, u215, u216, u217, u218, u219, u220, u221, u222, u223, u224, u225, u226, u227, u228, u229, u230, u231, u232, u233, u234], defers := [] } w := by
  have HBW : Hid (Below B W w) := hBW
  have HS : Hid (St X key ix sl sz w s bk mv mk cap n cp bys 0 f) := hS
  have HL : Hid (Lk Xq keyq nu w l bkq mn mp capq m fq) := hL
  have Hsep : Hid (Sep mv mk mn mp) := hsep
  have Hby : Hid (bys = sumF sz f n) := hby
  have HV : Hid (wV = sumF (ind key t) f n) := hV
  have HB : Hid (wB = sumF (indS key sz t) f n) := hB
  have HLw : Hid (wL = sumF (ind keyq t) fq m) := hLw
  have HSO : Hid (∀ k, StO sl s bk mv mk n f k → B ≤ k) := hSO
  have HLO : Hid (∀ k, LkO l bkq mn mp m fq k → B ≤ k) := hLO
  have y0 : w.cell? ⟨tb0, 0, none⟩ = some (.int .u64 0) := by rw [cell_of_row _ _ 0 _ 28 (0, 0) htb]; rfl
  have y1 : w.cell? ⟨tb0, 1, none⟩ = some (.int .i64 0) := by rw [cell_of_row _ _ 1 _ 28 (0, 0) htb]; rfl
  have y2 : w.cell? ⟨tb0, 2, none⟩ = some (.pointer none) := by rw [cell_of_row _ _ 2 _ 28 (0, 0) htb]; rfl
  clear hBW hS hL hsep hby hV hB hLw hSO hLO htb
  conv in fromR _ _ => whnf
  go_upto_region 43 with (fail)
  generalize hN0 : (((Yba.zeroCells95.setIfInBounds 75 (Value.pointer (some ⟨s, 0, none⟩))).setIfInBounds 76 (Value.pointer (some ⟨l, 0, none⟩))).setIfInBounds 79 (Value.int .u64 dr)).setIfInBounds 81 (Value.int .u64 iv) = N0
  have hz : 81 < Yba.zeroCells95.size := of_decide_eq_true (by kernel_rfl)
  have hNs : N0.size = Yba.zeroCells95.size := by rw [← hN0]; simp
  have n75 : N0[75]? = some (.pointer (some ⟨s, 0, none⟩)) := by
    rw [← hN0]; simp only [Array.getElem?_setIfInBounds, Array.size_setIfInBounds]; simp [show (75 : Nat) < Yba.zeroCells95.size by omega, show (76 : Nat) < Yba.zeroCells95.size by omega, show (79 : Nat) < Yba.zeroCells95.size by omega, hz]
  have n76 : N0[76]? = some (.pointer (some ⟨l, 0, none⟩)) := by
    rw [← hN0]; simp only [Array.getElem?_setIfInBounds, Array.size_setIfInBounds]; simp [show (75 : Nat) < Yba.zeroCells95.size by omega, show (76 : Nat) < Yba.zeroCells95.size by omega, show (79 : Nat) < Yba.zeroCells95.size by omega, hz]
  have n79 : N0[79]? = some (.int .u64 dr) := by
    rw [← hN0]; simp only [Array.getElem?_setIfInBounds, Array.size_setIfInBounds]; simp [show (75 : Nat) < Yba.zeroCells95.size by omega, show (76 : Nat) < Yba.zeroCells95.size by omega, show (79 : Nat) < Yba.zeroCells95.size by omega, hz]
  have n81 : N0[81]? = some (.int .u64 iv) := by
    rw [← hN0]; simp only [Array.getElem?_setIfInBounds, Array.size_setIfInBounds]; simp [show (75 : Nat) < Yba.zeroCells95.size by omega, show (76 : Nat) < Yba.zeroCells95.size by omega, show (79 : Nat) < Yba.zeroCells95.size by omega, hz]
  generalize hW1 : w.alloc (.cells N0 95 (0, 0)) = W1
  have hB1 : Below w.heap.size w W1 := by rw [← hW1]; exact (Below.refl _ _).alloc (Nat.le_refl _) _
  have hs1 : W1.heap.size = w.heap.size + 1 := by rw [← hW1]; simp
  have Hnd1 : Hid (W1.heap[w.heap.size]? = some (.cells N0 95 (0, 0))) := by
    show W1.heap[w.heap.size]? = _
    rw [← hW1]; exact (MapKept.heap_alloc _ _).1
  have y0 := bcell hB1 y0
  have y1 := bcell hB1 y1
  have y2 := bcell hB1 y2
  have HB1 : Hid (Below w.heap.size w W1) := hB1
  have HN : Hid (N0[75]? = some (.pointer (some ⟨s, 0, none⟩)) ∧ N0[76]? = some (.pointer (some ⟨l, 0, none⟩)) ∧ N0[79]? = some (.int .u64 dr) ∧ N0[81]? = some (.int .u64 iv) ∧ 81 < N0.size) := ⟨n75, n76, n79, n81, by rw [hNs]; exact hz⟩
  clear hN0 hW1 hB1 n75 n76 n79 n81 hz hNs
  go_upto_region 44 with (fail)
  generalize hW2 : W1.alloc _ = W2
  have hB2 : Below W1.heap.size W1 W2 := by rw [← hW2]; exact (Below.refl _ _).alloc (Nat.le_refl _) _
  have hs2 : W2.heap.size = W1.heap.size + 1 := by rw [← hW2]; simp
  have Hcb2 : Hid (W2.heap[W1.heap.size]? = some (.cells #[.int .i64 0] 3 (0, 0))) := by
    show W2.heap[W1.heap.size]? = _
    rw [← hW2]; exact (MapKept.heap_alloc _ _).1
  have Hnd2 : Hid (W2.heap[w.heap.size]? = some (.cells N0 95 (0, 0))) := (hB2.block _ (by omega)).trans Hnd1.out
  have y0 := bcell hB2 y0
  have y1 := bcell hB2 y1
  have y2 := bcell hB2 y2
  have HB2 : Hid (Below w.heap.size w W2) := HB1.out.trans (blessS hB2 (by omega))
  clear hW2 hB2 Hnd1 HB1
  generalize hcbe : W1.heap.size = cb at Hcb2 hs2 hs1 ⊢
  subst hs1
  clear hcbe
  go_upto_region 45 with (go_at_call 11; refine (add_eq 0 0 (t : Int) _ (by omega) (by omega) (by omega) (by omega) (by omega) (by omega)).mono ?_; rintro e w3 ⟨rfl, hw3⟩; have hB3 : Below W2.heap.size W2 w3 := (by rw [hw3]; exact ((Below.refl _ _).alloc (Nat.le_refl _) _).alloc (by simp) _); have HB3 : Hid (Below W2.heap.size W2 w3) := hB3; clear hw3 hB3)
  have et1 : (t : Int) % 1000000000 = t := by omega
  have et2 : (t : Int) / 1000000000 = 0 := by omega
  rw [et1, et2]
  clear et1 et2 y0 y1 y2
  generalize hW4 : w3.alloc _ = W4
  have hs3 := HB3.out.size
  have hB4 : Below w3.heap.size w3 W4 := by rw [← hW4]; exact (Below.refl _ _).alloc (Nat.le_refl _) _
  have hB24 : Below W2.heap.size W2 W4 := HB3.out.trans (blessS hB4 hs3)
  have Hnb4 : Hid (W4.heap[w3.heap.size]? = some (.cells #[.int .u64 t, .int .i64 0, .pointer none] 28 (0, 0))) := by
    show W4.heap[w3.heap.size]? = _
    rw [← hW4]; exact (MapKept.heap_alloc _ _).1
  have hnd4 : W4.heap[w.heap.size]? = some (.cells N0 95 (0, 0)) := (hB24.block _ (by omega)).trans Hnd2.out
  have Hcb4 : Hid (W4.heap[w.heap.size + 1]? = some (.cells #[.int .i64 0] 3 (0, 0))) := (hB24.block _ (by omega)).trans Hcb2.out
  have HB4 : Hid (Below w.heap.size w W4) := HB2.out.trans (blessS hB24 (by omega))
  obtain ⟨v74, hv74⟩ : ∃ v, N0[74]? = some v := ⟨_, Array.getElem?_eq_getElem (by have := HN.out.2.2.2.2; omega)⟩
  have k74 : W4.cell? ⟨w.heap.size, 74, none⟩ = some v74 := by rw [cell_of_row _ _ 74 _ 95 (0, 0) hnd4]; exact hv74
  have f74 : W4.frozen? ⟨w.heap.size, 74, none⟩ = false := by simp [World.frozen?, hnd4]
  have hstf : (store ⟨w.heap.size, 74, none⟩ (.func (.func 13) #[] #[.pointer (some ⟨w.heap.size + 1, 0, none⟩), .pointer (some ⟨w3.heap.size, 0, none⟩)])).run Yba.prog W4 = .ok () (W4.setCell ⟨w.heap.size, 74, none⟩ (.func (.func 13) #[] #[.pointer (some ⟨w.heap.size + 1, 0, none⟩), .pointer (some ⟨w3.heap.size, 0, none⟩)])) := by
    simp [store, Sem.run, k74, f74]
  have hmf : ∀ (fn : Fn) (first cap : Array Value) (w : World), (Instr.makeFunc fn first cap).run Yba.prog w = .ok (.func fn first cap) w := fun _ _ _ _ => rfl
  have Hnd4 : Hid _ := hnd4
  clear hW4 hB4 hB24 hnd4 Hcb2 Hnd2 HB2 HB3
  generalize hnbe : w3.heap.size = nb at Hnb4 hs3 hstf ⊢
  have hnbw : w.heap.size + 2 ≤ nb := by omega
  clear hnbe hs3
  go_upto_region 46 with (fail)
  generalize hW5 : W4.setCell ⟨w.heap.size, 74, none⟩ _ = W5
  have HA : Hid (W5.heap[w.heap.size]? = some (.cells (N0.setIfInBounds 74 (.func (.func 13) #[] #[.pointer (some ⟨w.heap.size + 1, 0, none⟩), .pointer (some ⟨nb, 0, none⟩)])) 95 (0, 0))) := by
    show W5.heap[w.heap.size]? = _
    rw [← hW5]; exact heap_setCell_same W4 w.heap.size 74 _ 95 _ Hnd4.out
  have hb5 : ∀ k, k ≠ w.heap.size → W5.heap[k]? = W4.heap[k]? := fun k hk => by rw [← hW5, Below.heap_setCell _ _ _ _ (fun e => hk e)]
  have HB5 : Hid (Below w.heap.size w W5) := by
    show Below w.heap.size w W5
    rw [← hW5]; exact HB4.out.setCell (p := ⟨w.heap.size, 74, none⟩) (Nat.le_refl _) _
  have Hb5 : Hid _ := hb5
  clear hW5 hb5 k74 f74 hmf hv74 hstf
  go_upto_region 47 with (fail)
  generalize hW6 : W5.alloc _ = W6
  have hB6 : Below W5.heap.size W5 W6 := by rw [← hW6]; exact (Below.refl _ _).alloc (Nat.le_refl _) _
  have Hwb6 : Hid (W6.heap[W5.heap.size]? = some (.cells #[.int .i64 (wV : Nat), .int .i64 (wB : Nat), .int .i64 (wL : Nat), .int .u64 dr, .int .u64 iv] 97 (0, 0))) := by
    show W6.heap[W5.heap.size]? = _
    rw [← hW6]; exact (MapKept.heap_alloc _ _).1
  have HB6 : Hid (Below w.heap.size w W6) := HB5.out.trans (blessS hB6 HB5.out.size)
  have hN6 : NodeS W6 w.heap.size s l (w.heap.size + 1) nb t (N0.setIfInBounds 74 (.func (.func 13) #[] #[.pointer (some ⟨w.heap.size + 1, 0, none⟩), .pointer (some ⟨nb, 0, none⟩)])) dr iv 0 := by
    have a := HN.out
    refine ⟨(hB6.block _ (lt_of_heap HA.out)).trans HA.out, ?_, ?_, ?_, ?_, ?_, ?_, ?_⟩
    · rw [Array.getElem?_setIfInBounds, if_pos rfl, if_pos (by omega)]
    · rw [Array.getElem?_setIfInBounds, if_neg (by omega)]; exact a.1
    · rw [Array.getElem?_setIfInBounds, if_neg (by omega)]; exact a.2.1
    · rw [Array.getElem?_setIfInBounds, if_neg (by omega)]; exact a.2.2.1
    · rw [Array.getElem?_setIfInBounds, if_neg (by omega)]; exact a.2.2.2.1
    · have h1 : W5.heap[w.heap.size + 1]? = some (.cells #[.int .i64 0] 3 (0, 0)) := (Hb5.out _ (by omega)).trans Hcb4.out
      exact (hB6.block _ (lt_of_heap h1)).trans h1
    · have h1 : W5.heap[nb]? = some (.cells #[.int .u64 t, .int .i64 0, .pointer none] 28 (0, 0)) := (Hb5.out _ (by omega)).trans Hnb4.out
      exact (hB6.block _ (lt_of_heap h1)).trans h1
  generalize N0.setIfInBounds 74 (.func (.func 13) #[] #[.pointer (some ⟨w.heap.size + 1, 0, none⟩), .pointer (some ⟨nb, 0, none⟩)]) = A at hN6
  have HN6 : Hid (NodeS W6 w.heap.size s l (w.heap.size + 1) nb t A dr iv 0) := hN6
  have HS6 : Hid (St X key ix sl sz W6 s bk mv mk cap n cp bys 0 f) := HS.out.keep HB6.out.block
  have HL6 : Hid (Lk Xq keyq nu W6 l bkq mn mp capq m fq) := HL.out.keep HB6.out.block
  have HE : Hid _ := stats X Xq key ix sl sz keyq nu f fq W6 w.heap.size s bk mv mk cap n l bkq mn mp capq m (w.heap.size + 1) nb t cp bys 0 dr iv 0 A HN6.out HS6.out HL6.out Hsep.out Hby.out (by omega) hn hm ht (by omega)
  generalize hwbe : W5.heap.size = wb at Hwb6 ⊢
  have hwbw : w.heap.size ≤ wb := by have := HB5.out.size; omega
  clear hW6 hB6 hN6 HA Hb5 HB5 HB4 Hnd4 Hcb4 Hnb4 HN hwbe
  have HBc : Hid (∀ k, (StO sl s bk mv mk n f k ∨ LkO l bkq mn mp m fq k ∨ k = w.heap.size + 1) → B ≤ k) := by
    show ∀ k, _ → B ≤ k
    rintro k (h | h | h)
    · exact HSO.out k h
    · exact HLO.out k h
    · omega
  go_wp2_with (fail)
  refine Calls.mono HE.out ?_
  rintro e W7 ⟨n', bys', ch', f', m', fq', rfl, hN7, hK7, hA7⟩
  have en : n' = wV := by rw [HV.out]; exact count_left hA7.st.heap hA7.due hA7.sum
  have eb : bys' = (wB : Nat) := by rw [hA7.bys, HB.out, bytes_left hA7.st.heap hA7.due hA7.sum]
  have em : m' = wL := by rw [HLw.out]; exact count_left hA7.lk.heap hA7.dueq hA7.sumq
  subst en eb em
  have HN7 : Hid (NodeS W7 w.heap.size s l (w.heap.size + 1) nb t A dr iv (0 + 1)) := hN7
  have HA7 : Hid (After X Xq key ix sl sz keyq nu s bk mv mk cap n l bkq mn mp capq m t cp bys 0 f fq W7 n' (wB : Nat) ch' f' m' fq') := hA7
  have hwb7 : W7.heap[wb]? = some (.cells #[.int .i64 (n' : Nat), .int .i64 (wB : Nat), .int .i64 (m' : Nat), .int .u64 dr, .int .u64 iv] 97 (0, 0)) := (hK7.block wb (lt_of_heap Hwb6.out) (fun h => h.elim (HS6.out.not Hwb6.out (by decide) (by decide) (by decide)) (fun h => h.elim (HL6.out.not Hwb6.out (by decide) (by decide) (by decide)) (fun e => blk_ne Hwb6.out HN6.out.calls (by decide) e)))).trans Hwb6.out
  have HBe7 : Hid (Below B W W7) := HBW.out.trans ((blessS HB6.out hBs).trans (hK7.below HBc.out (Nat.le_trans hBs HB6.out.size)))
  have hs7 : w.heap.size ≤ W7.heap.size := Nat.le_trans HB6.out.size hK7.size
  clear hN7 hA7 hK7 HE
  go_upto_region 48 with (fail)
  generalize hW8 : W7.alloc _ = W8
  have hB8 : Below W7.heap.size W7 W8 := by rw [← hW8]; exact (Below.refl _ _).alloc (Nat.le_refl _) _
  have hgb8 : W8.heap[W7.heap.size]? = some (.cells #[.int .i64 (n' : Nat), .int .i64 (wB : Nat), .int .i64 (m' : Nat), .int .u64 dr, .int .u64 iv] 97 (0, 0)) := by rw [← hW8]; exact (MapKept.heap_alloc _ _).1
  have hwb8 := (hB8.block wb (lt_of_heap hwb7)).trans hwb7
  have hcb8 := (hB8.block _ (lt_of_heap HN7.out.calls)).trans HN7.out.calls
  have g0 : W8.cell? ⟨W7.heap.size, 0, none⟩ = some (.int .i64 (n' : Nat)) := by rw [cell_of_row _ _ 0 _ 97 (0, 0) hgb8]; rfl
  have g1 : W8.cell? ⟨W7.heap.size, 1, none⟩ = some (.int .i64 (wB : Nat)) := by rw [cell_of_row _ _ 1 _ 97 (0, 0) hgb8]; rfl
  have g2 : W8.cell? ⟨W7.heap.size, 2, none⟩ = some (.int .i64 (m' : Nat)) := by rw [cell_of_row _ _ 2 _ 97 (0, 0) hgb8]; rfl
  have g3 : W8.cell? ⟨W7.heap.size, 3, none⟩ = some (.int .u64 dr) := by rw [cell_of_row _ _ 3 _ 97 (0, 0) hgb8]; rfl
  have g4 : W8.cell? ⟨W7.heap.size, 4, none⟩ = some (.int .u64 iv) := by rw [cell_of_row _ _ 4 _ 97 (0, 0) hgb8]; rfl
  have x0 : W8.cell? ⟨wb, 0, none⟩ = some (.int .i64 (n' : Nat)) := by rw [cell_of_row _ _ 0 _ 97 (0, 0) hwb8]; rfl
  have x1 : W8.cell? ⟨wb, 1, none⟩ = some (.int .i64 (wB : Nat)) := by rw [cell_of_row _ _ 1 _ 97 (0, 0) hwb8]; rfl
  have x2 : W8.cell? ⟨wb, 2, none⟩ = some (.int .i64 (m' : Nat)) := by rw [cell_of_row _ _ 2 _ 97 (0, 0) hwb8]; rfl
  have x3 : W8.cell? ⟨wb, 3, none⟩ = some (.int .u64 dr) := by rw [cell_of_row _ _ 3 _ 97 (0, 0) hwb8]; rfl
  have x4 : W8.cell? ⟨wb, 4, none⟩ = some (.int .u64 iv) := by rw [cell_of_row _ _ 4 _ 97 (0, 0) hwb8]; rfl
  have k0 : W8.cell? ⟨w.heap.size + 1, 0, none⟩ = some (.int .i64 1) := by rw [cell_of_row _ _ 0 _ 3 (0, 0) hcb8]; rfl
  have HS8 : Hid (St X key ix sl sz W8 s bk mv mk cap n' cp (wB : Nat) ch' f') := HA7.out.st.keep hB8.block
  have HL8 : Hid (Lk Xq keyq nu W8 l bkq mn mp capq m' fq') := HA7.out.lk.keep hB8.block
  have HN8 : Hid (NodeS W8 w.heap.size s l (w.heap.size + 1) nb t A dr iv 1) := by
    have M := HN7.out
    exact ⟨(hB8.block _ (lt_of_heap M.obj)).trans M.obj, M.a74, M.a75, M.a76, M.a79, M.a81, hcb8, (hB8.block _ (lt_of_heap M.now)).trans M.now⟩
  have HBe8 : Hid (Below B W W8) := HBe7.out.trans (blessS hB8 (by omega))
  obtain ⟨qa, hlo, _⟩ := HL8.out.obj
  have q2 : W8.cell? ⟨l, 2, none⟩ = some (.map (some mp)) := lk_cell hlo 2
  have hlk : (Instr.lookup 67 (.map (some mp)) (.agg zid.toArray) false).run Yba.prog W8 = .ok (.int .i64 (m' : Nat)) W8 := HL8.out.pend.look
  have hs8 : w.heap.size ≤ W8.heap.size := Nat.le_trans hs7 hB8.size
  have Hwb8 : Hid _ := hwb8
  have HE2 : Hid _ := stats X Xq key ix sl sz keyq nu f' fq' W8 w.heap.size s bk mv mk cap n' l bkq mn mp capq m' (w.heap.size + 1) nb t cp (wB : Nat) ch' dr iv 1 A HN8.out HS8.out HL8.out Hsep.out HA7.out.bys (by have := HA7.out.ch; have := HA7.out.le; omega) (by have := HA7.out.le; omega) (by have := HA7.out.leq; omega) ht (by omega)
  clear hW8 hB8 hgb8 hwb8 hcb8 hlo hwb7
  go_wp2_with (fail)
  refine Calls.mono HE2.out ?_
  rintro e W9 ⟨n2, b2, ch2, f2, m2, fq2, rfl, hN9, hK9, hA9⟩
  have en : n2 = n' := by
    have h1 := count_left hA9.st.heap hA9.due hA9.sum
    rw [HA7.out.sum _ (fun b hb => by simp [ind]; omega)] at h1
    rw [h1]; exact HV.out.symm
  have eb : b2 = (wB : Nat) := by
    have h1 := bytes_left (sz := sz) hA9.st.heap hA9.due hA9.sum
    rw [HA7.out.sum _ (fun b hb => by simp [indS]; omega)] at h1
    rw [hA9.bys, h1, HB.out]
  have em : m2 = m' := by
    have h1 := count_left hA9.lk.heap hA9.dueq hA9.sumq
    rw [HA7.out.sumq _ (fun b hb => by simp [ind]; omega)] at h1
    rw [h1]; exact HLw.out.symm
  subst en eb em
  have hwb9 : W9.heap[wb]? = some (.cells #[.int .i64 (n2 : Nat), .int .i64 (wB : Nat), .int .i64 (m2 : Nat), .int .u64 dr, .int .u64 iv] 97 (0, 0)) := (hK9.block wb (lt_of_heap Hwb8.out) (fun h => h.elim (HS8.out.not Hwb8.out (by decide) (by decide) (by decide)) (fun h => h.elim (HL8.out.not Hwb8.out (by decide) (by decide) (by decide)) (fun e => blk_ne Hwb8.out HN8.out.calls (by decide) e)))).trans Hwb8.out
  have hKB : ∀ k, (StO sl s bk mv mk n2 f' k ∨ LkO l bkq mn mp m2 fq' k ∨ k = w.heap.size + 1) → B ≤ k := by
    rintro k (h | h | h)
    · exact HSO.out k (StO.mono HA7.out.mem k h)
    · exact HLO.out k (LkO.mono HA7.out.memq k h)
    · omega
  have HBe9 : Hid (Below B W W9) := HBe8.out.trans (hK9.below hKB (by omega))
  have hs9 : w.heap.size ≤ W9.heap.size := Nat.le_trans hs8 hK9.size
  have hcb9 := hN9.calls
  clear hA9 hK9 HE2 hKB g0 g1 g2 g3 g4 x0 x1 x2 x3 x4 k0 q2 hlk
  go_upto_region 53 with (fail)
  generalize hW10 : W9.alloc _ = W10
  have hB10 : Below W9.heap.size W9 W10 := by rw [← hW10]; exact (Below.refl _ _).alloc (Nat.le_refl _) _
  have hgb10 : W10.heap[W9.heap.size]? = some (.cells #[.int .i64 (n2 : Nat), .int .i64 (wB : Nat), .int .i64 (m2 : Nat), .int .u64 dr, .int .u64 iv] 97 (0, 0)) := by rw [← hW10]; exact (MapKept.heap_alloc _ _).1
  have hwb10 := (hB10.block wb (lt_of_heap hwb9)).trans hwb9
  have hcb10 := (hB10.block _ (lt_of_heap hcb9)).trans hcb9
  have g0 : W10.cell? ⟨W9.heap.size, 0, none⟩ = some (.int .i64 (n2 : Nat)) := by rw [cell_of_row _ _ 0 _ 97 (0, 0) hgb10]; rfl
  have g1 : W10.cell? ⟨W9.heap.size, 1, none⟩ = some (.int .i64 (wB : Nat)) := by rw [cell_of_row _ _ 1 _ 97 (0, 0) hgb10]; rfl
  have g2 : W10.cell? ⟨W9.heap.size, 2, none⟩ = some (.int .i64 (m2 : Nat)) := by rw [cell_of_row _ _ 2 _ 97 (0, 0) hgb10]; rfl
  have g3 : W10.cell? ⟨W9.heap.size, 3, none⟩ = some (.int .u64 dr) := by rw [cell_of_row _ _ 3 _ 97 (0, 0) hgb10]; rfl
  have g4 : W10.cell? ⟨W9.heap.size, 4, none⟩ = some (.int .u64 iv) := by rw [cell_of_row _ _ 4 _ 97 (0, 0) hgb10]; rfl
  have x0 : W10.cell? ⟨wb, 0, none⟩ = some (.int .i64 (n2 : Nat)) := by rw [cell_of_row _ _ 0 _ 97 (0, 0) hwb10]; rfl
  have x1 : W10.cell? ⟨wb, 1, none⟩ = some (.int .i64 (wB : Nat)) := by rw [cell_of_row _ _ 1 _ 97 (0, 0) hwb10]; rfl
  have x2 : W10.cell? ⟨wb, 2, none⟩ = some (.int .i64 (m2 : Nat)) := by rw [cell_of_row _ _ 2 _ 97 (0, 0) hwb10]; rfl
  have x3 : W10.cell? ⟨wb, 3, none⟩ = some (.int .u64 dr) := by rw [cell_of_row _ _ 3 _ 97 (0, 0) hwb10]; rfl
  have x4 : W10.cell? ⟨wb, 4, none⟩ = some (.int .u64 iv) := by rw [cell_of_row _ _ 4 _ 97 (0, 0) hwb10]; rfl
  have k0 : W10.cell? ⟨w.heap.size + 1, 0, none⟩ = some (.int .i64 2) := by rw [cell_of_row _ _ 0 _ 3 (0, 0) hcb10]; rfl
  have HBe10 : Hid (Below B W W10) := HBe9.out.trans (blessS hB10 (by omega))
  clear hW10 hB10 hgb10 hwb10 hcb10 hwb9 hcb9 hN9
  go_wp2
  go_ret
  exact ⟨rfl, HBe10.out⟩
end Go.Proofs.Ybulkamjs
