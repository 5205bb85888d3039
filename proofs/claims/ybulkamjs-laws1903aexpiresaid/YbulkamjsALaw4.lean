/- The walk of LawS1903AExpire: it returns true. -/
import Derived.Test.YbulkamjsALaw3
import Derived.Test.YbulkamjsRowQ
namespace Go.Proofs.Ybulkamjs
open Go.RowKit Go.Maps Go.WideMaps
set_option linter.unusedSimpArgs false
set_option linter.unusedVariables false

theorem RowQ.keep {w w' : World} {q : Option Addr} {g B : Nat} {zs : List Int} (h : RowQ w q g zs) (hB : Below B w w') (hg : g < B) : RowQ w' q g zs := h.move (fun _ => hB.block g hg)
/-- The store that stands at the loop's start. -/
theorem BldS.start {w w' : World} (vs : List Int) (szf : Nat → Nat) (ho : w'.heap[w.heap.size]? = some (stObj 1073741824 0 (w.heap.size + 1) (w.heap.size + 2) (.slice none 0 0) 0))
    (h1 : w'.heap[w.heap.size + 1]? = some (.map #[] 0)) (h2 : w'.heap[w.heap.size + 2]? = some (.map #[] 0)) (hB : Below w.heap.size w w') :
    BldS w w.heap.size (w.heap.size + 1) (w.heap.size + 2) vs szf w' 0 [] (.slice none 0 0) := by
  refine ⟨rfl, ho, ⟨by simp, .inl ⟨rfl, rfl⟩⟩, fun _ => rfl, fun k r h => by simp at h, fun k r h => by simp at h, fun i j r r' h => by simp at h, fun i j r r' h => by simp at h, ?_, ?_, hB⟩
  · refine ⟨0, .map [], ?_, Nat.le_refl _, rfl, fun k h => by omega, fun k _ _ => rfl⟩
    have hm := World.ownsMap_made (H := Unit) (w.alloc (.map #[] 0)) Yba.prog 46 R1
    have e : (w.alloc (.map #[] 0)).heap.size = w.heap.size + 1 := by simp
    rw [e] at hm
    refine ownsMap_heap hm ?_
    rw [h1, ← e]; exact (MapKept.heap_alloc _ _).1.symm
  · refine ⟨0, .map [], ?_, Nat.le_refl _, fun k r h => by simp at h⟩
    have hm := World.ownsMap_made (H := Unit) ((w.alloc (.map #[] 0)).alloc (.map #[] 0)) Yba.prog 44 R2
    have e : ((w.alloc (.map #[] 0)).alloc (.map #[] 0)).heap.size = w.heap.size + 2 := by simp
    rw [e] at hm
    refine ownsMap_heap hm ?_
    rw [h2, ← e]; exact (MapKept.heap_alloc _ _).1.symm

set_option maxRecDepth 20000 in
set_option maxHeartbeats 4000000 in
theorem alaw_small (a0 a1 a2 : Option Addr) (cap0 cap1 cap2 t ln : Nat) (vs zs : List Int) (yf : Nat → Nat) (dr iv : Int) (w : World)
    (h0 : (a0 = none ∧ vs = []) ∨ ∃ x, a0 = some x ∧ ∀ (i : Nat) (z : Int), vs[i]? = some z → w.cell? (x.add i) = some (.int .u16 z))
    (h1 : 0 < ln → ∃ x, a1 = some x ∧ ∀ i, i < ln → yf i < 256 ∧ w.cell? (x.add i) = some (.int .u8 (yf i : Nat)))
    (h2 : (a2 = none ∧ zs = []) ∨ ∃ x, a2 = some x ∧ ∀ (i : Nat) (z : Int), zs[i]? = some z → w.cell? (x.add i) = some (.int .u16 z))
    (r0 : ∀ z ∈ vs, 0 ≤ z ∧ z < 65536) (r2 : ∀ z ∈ zs, 0 ≤ z ∧ z < 65536) (l0 : vs.length ≤ 1024) (l2 : zs.length ≤ 1024) (hln : ln ≤ 9223372036854775807) (ht : t < 65536) :
    Calls Yba.prog 3 #[.slice a0 vs.length cap0, .slice a1 ln cap1, .slice a2 zs.length cap2, .int .u16 t, .int .u64 dr, .int .u64 iv] w fun e w' => e = .returned (.bool true) ∧ Below w.heap.size w w' := by
  have H0 : Hid _ := h0
  have H1 : Hid _ := h1
  have H2 : Hid _ := h2
  have R0 : Hid _ := r0
  have R2 : Hid _ := r2
  clear h0 h1 h2 r0 r2
  have HC1 : Hid (∀ w1, Below w.heap.size w w1 → Calls Yba.prog 7 #[.slice a0 vs.length cap0] w1 fun e w' => ∃ (q : Option Addr) (g c : Nat), e = .returned (.slice q vs.length c) ∧ RowQ w' q g vs ∧ w1.heap.size ≤ g ∧ Below w1.heap.size w1 w') := fun w1 hb =>
    clone_any a0 cap0 vs w1 l0 (H0.out.imp id fun ⟨x, hx, hc⟩ => ⟨x, hx, fun i z hz => bcell hb (hc i z hz)⟩)
  have HC2 : Hid (∀ w1, Below w.heap.size w w1 → Calls Yba.prog 7 #[.slice a2 zs.length cap2] w1 fun e w' => ∃ (q : Option Addr) (g c : Nat), e = .returned (.slice q zs.length c) ∧ RowQ w' q g zs ∧ w1.heap.size ≤ g ∧ Below w1.heap.size w1 w') := fun w1 hb =>
    clone_any a2 cap2 zs w1 l2 (H2.out.imp id fun ⟨x, hx, hc⟩ => ⟨x, hx, fun i z hz => bcell hb (hc i z hz)⟩)
  have HS1 : Hid (∀ (q : Option Addr) (g c : Nat) (w1 : World), RowQ w1 q g vs → Calls Yba.prog 8 #[.slice q vs.length c] w1 fun e w' => e = .returned (.tuple #[]) ∧ RowQ w' q g (vs.mergeSort fun x y => decide (x ≤ y)) ∧ Kept (fun k => k = g) w1 w') := fun q g c w1 h => sort_any q g c vs w1 h l0
  have HS2 : Hid (∀ (q : Option Addr) (g c : Nat) (w1 : World), RowQ w1 q g zs → Calls Yba.prog 8 #[.slice q zs.length c] w1 fun e w' => e = .returned (.tuple #[]) ∧ RowQ w' q g (zs.mergeSort fun x y => decide (x ≤ y)) ∧ Kept (fun k => k = g) w1 w') := fun q g c w1 h => sort_any q g c zs w1 h l2
  have E0 : Hid ((vs.mergeSort fun x y => decide (x ≤ y)).length = vs.length) := List.length_mergeSort _
  have E2 : Hid ((zs.mergeSort fun x y => decide (x ≤ y)).length = zs.length) := List.length_mergeSort _
  have P0 : Hid (∀ z ∈ (vs.mergeSort fun x y => decide (x ≤ y)), 0 ≤ z ∧ z < 65536) := fun z hz => R0.out z (List.mem_mergeSort.1 hz)
  have P2 : Hid (∀ z ∈ (zs.mergeSort fun x y => decide (x ≤ y)), 0 ≤ z ∧ z < 65536) := fun z hz => R2.out z (List.mem_mergeSort.1 hz)
  have O0 : Hid (∀ (i j : Nat) (a b : Int), i ≤ j → (vs.mergeSort fun x y => decide (x ≤ y))[i]? = some a → (vs.mergeSort fun x y => decide (x ≤ y))[j]? = some b → a ≤ b) := fun i j a b hij ha hb => sorted_le vs hij ha hb
  have O2 : Hid (∀ (i j : Nat) (a b : Int), i ≤ j → (zs.mergeSort fun x y => decide (x ≤ y))[i]? = some a → (zs.mergeSort fun x y => decide (x ≤ y))[j]? = some b → a ≤ b) := fun i j a b hij ha hb => sorted_le zs hij ha hb
  generalize (vs.mergeSort fun x y => decide (x ≤ y)) = vs' at HS1 E0 P0 O0
  generalize (zs.mergeSort fun x y => decide (x ≤ y)) = zs' at HS2 E2 P2 O2
  generalize vs.length = n at l0 HC1 HS1 E0 ⊢
  generalize zs.length = m at l2 HC2 HS2 E2 ⊢
  have g0 : ¬ (1024 : Int) < (n : Int) := by omega
  have g2 : ¬ (1024 : Int) < (m : Int) := by omega
  go_enter Yba.func3, Yba.ntmps3
  go_upto_region 4 with (fail)
  generalize hW1 : w.alloc _ = w1
  have HB1 : Hid (Below w.heap.size w w1) := by
    show Below _ _ _
    rw [← hW1]; exact (Below.refl _ _).alloc (Nat.le_refl _) _
  have Htb : Hid (w1.heap[w.heap.size]? = some (.cells #[.int .u64 0, .int .i64 0, .pointer none] 28 (0, 0))) := by
    show w1.heap[w.heap.size]? = _
    rw [← hW1]; exact (MapKept.heap_alloc _ _).1
  clear hW1
  go_upto_region 5 with (go_at_call 7; refine Calls.mono (HC1.out _ HB1.out) ?_; rintro e w2 ⟨qv, gv, capv, rfl, hQ2, hgv, hB2⟩; have HQ2 : Hid _ := hQ2; have HB2 : Hid _ := hB2; clear hQ2 hB2)
  go_upto_region 6 with (go_at_call 8; refine Calls.mono (HS1.out _ _ _ _ HQ2.out) ?_; rintro e w3 ⟨rfl, hQ3, hK3⟩; have HQ3 : Hid _ := hQ3; have HK3 : Hid _ := hK3; clear hQ3 hK3)
  have hs1 := HB1.out.size
  have hs2 := HB2.out.size
  have hs3 := HK3.out.size
  have HB3 : Hid (Below w1.heap.size w1 w3) := HB2.out.trans (HK3.out.below (fun k hk => by omega) hs2)
  have HB03 : Hid (Below w.heap.size w w3) := HB1.out.trans (blessS HB3.out hs1)
  clear HB2 HK3 HQ2
  go_upto_region 7 with (go_at_call 7; refine Calls.mono (HC2.out _ HB03.out) ?_; rintro e w4 ⟨qz, gz, capz, rfl, hQ4, hgz, hB4⟩; have HQ4 : Hid _ := hQ4; have HB4 : Hid _ := hB4; clear hQ4 hB4)
  go_upto_region 8 with (go_at_call 8; refine Calls.mono (HS2.out _ _ _ _ HQ4.out) ?_; rintro e w5 ⟨rfl, hQ5, hK5⟩; have HQ5 : Hid _ := hQ5; have HK5 : Hid _ := hK5; clear hQ5 hK5)
  have hs4 := HB4.out.size
  have hs5 := HK5.out.size
  have HB5 : Hid (Below w3.heap.size w3 w5) := HB4.out.trans (HK5.out.below (fun k hk => by omega) hs4)
  have HB05 : Hid (Below w.heap.size w w5) := HB03.out.trans (blessS HB5.out (by omega))
  have HB15 : Hid (Below w1.heap.size w1 w5) := HB3.out.trans (blessS HB5.out (by omega))
  have Htb5 : Hid (w5.heap[w.heap.size]? = some (.cells #[.int .u64 0, .int .i64 0, .pointer none] 28 (0, 0))) := (HB15.out.block _ (lt_of_heap Htb.out)).trans Htb.out
  have HV5 : Hid (RowQ w5 qv gv vs') := RowQ.move HQ3.out (fun h => HB5.out.block gv h)
  clear HB1 HB3 HB03 HB4 HB5 HK5 HQ4 HQ3 HB15 Htb HC1 HC2 HS1 HS2
  go_upto_region 9 with (go_at_call 9; refine (new_store _).mono ?_; rintro e w6 ⟨rfl, hw6⟩; have Hw6 : Hid _ := hw6; clear hw6)
  have hs6 : w6.heap.size = w5.heap.size + 1 := by rw [Hw6.out]; simp
  have ho6 : w6.heap[w5.heap.size]? = some (.cells #[.int .i64 1073741824, .int .i64 0, .map none, .map none, .slice none 0 0, .int .u64 0] 38 (0, 0)) := by
    rw [Hw6.out]; exact (MapKept.heap_alloc _ _).1
  have hB6 : Below w5.heap.size w5 w6 := by
    rw [Hw6.out]; exact (Below.refl _ _).alloc (Nat.le_refl _) _
  clear Hw6
  obtain ⟨w7, m33, hw7⟩ : ∃ w7, (Instr.makeMap 33 none).run Yba.prog w6 = .ok (.map (some w6.heap.size)) w7 ∧ w7 = w6.alloc (.map #[] 0) := ⟨_, by kernel_rfl, rfl⟩
  rw [hs6] at m33
  have ho7 : w7.heap[w5.heap.size]? = some (.cells #[.int .i64 1073741824, .int .i64 0, .map none, .map none, .slice none 0 0, .int .u64 0] 38 (0, 0)) := by
    rw [hw7]; exact ((MapKept.heap_alloc _ _).2 _ (lt_of_heap ho6)).trans ho6
  have hs7 : w7.heap.size = w5.heap.size + 2 := by rw [hw7]; simp; omega
  have hm7 : w7.heap[w5.heap.size + 1]? = some (.map #[] 0) := by
    rw [hw7, ← hs6]; exact (MapKept.heap_alloc _ _).1
  have hB7 : Below w5.heap.size w5 w7 := by
    rw [hw7]; exact hB6.alloc hB6.size _
  have c2 : w7.cell? ⟨w5.heap.size, 2, none⟩ = some (.map none) := by rw [cell_of_row _ _ 2 _ 38 (0, 0) ho7]; rfl
  have f2 : w7.frozen? ⟨w5.heap.size, 2, none⟩ = false := by simp [World.frozen?, ho7]
  have Ho7 : Hid _ := ho7
  have Hs7 : Hid _ := hs7
  have Hm7 : Hid _ := hm7
  have HB7 : Hid _ := hB7
  clear hs6 ho6 ho7 hB6 hB7 hs7 hm7 hw7
  go_upto_region 10 with (fail)
  generalize hW8 : w7.setCell ⟨w5.heap.size, 2, none⟩ (.map (some (w5.heap.size + 1))) = w8
  have hs8 : w8.heap.size = w5.heap.size + 2 := by
    rw [← hW8]
    have := Hs7.out
    simp [World.setCell]; omega
  have ho8 : w8.heap[w5.heap.size]? = some (.cells #[.int .i64 1073741824, .int .i64 0, .map (some (w5.heap.size + 1)), .map none, .slice none 0 0, .int .u64 0] 38 (0, 0)) := by
    rw [← hW8]; exact heap_setCell_same _ _ 2 _ 38 _ Ho7.out
  have hB8 : Below w5.heap.size w5 w8 := by
    rw [← hW8]; exact HB7.out.setCell (p := ⟨w5.heap.size, 2, none⟩) (Nat.le_refl _) _
  have hm8 : w8.heap[w5.heap.size + 1]? = some (.map #[] 0) := by
    rw [← hW8, Below.heap_setCell _ _ _ _ (fun e => by have e' : w5.heap.size + 1 = w5.heap.size := e; omega)]; exact Hm7.out
  clear hW8 Ho7 Hs7 Hm7 HB7 m33 c2 f2
  obtain ⟨w9, m34, hw9⟩ : ∃ w9, (Instr.makeMap 34 none).run Yba.prog w8 = .ok (.map (some w8.heap.size)) w9 ∧ w9 = w8.alloc (.map #[] 0) := ⟨_, by kernel_rfl, rfl⟩
  rw [hs8] at m34
  have ho9 : w9.heap[w5.heap.size]? = some (.cells #[.int .i64 1073741824, .int .i64 0, .map (some (w5.heap.size + 1)), .map none, .slice none 0 0, .int .u64 0] 38 (0, 0)) := by
    rw [hw9]; exact ((MapKept.heap_alloc _ _).2 _ (lt_of_heap ho8)).trans ho8
  have hm9 : w9.heap[w5.heap.size + 1]? = some (.map #[] 0) := by
    rw [hw9]; exact ((MapKept.heap_alloc _ _).2 _ (lt_of_heap hm8)).trans hm8
  have hk9 : w9.heap[w5.heap.size + 2]? = some (.map #[] 0) := by
    rw [hw9, ← hs8]; exact (MapKept.heap_alloc _ _).1
  have hB9 : Below w5.heap.size w5 w9 := by
    rw [hw9]; exact hB8.alloc hB8.size _
  have c3 : w9.cell? ⟨w5.heap.size, 3, none⟩ = some (.map none) := by rw [cell_of_row _ _ 3 _ 38 (0, 0) ho9]; rfl
  have f3 : w9.frozen? ⟨w5.heap.size, 3, none⟩ = false := by simp [World.frozen?, ho9]
  have Ho9 : Hid _ := ho9
  have Hm9 : Hid _ := hm9
  have Hk9 : Hid _ := hk9
  have HB9 : Hid _ := hB9
  clear hs8 ho8 hB8 hm8 hw9 ho9 hm9 hk9 hB9
  go_upto_region 11 with (fail)
  generalize hW10 : w9.setCell ⟨w5.heap.size, 3, none⟩ (.map (some (w5.heap.size + 2))) = w10
  have Ho10 : Hid (w10.heap[w5.heap.size]? = some (stObj 1073741824 0 (w5.heap.size + 1) (w5.heap.size + 2) (.slice none 0 0) 0)) := by
    show w10.heap[w5.heap.size]? = _
    rw [← hW10]; exact heap_setCell_same _ _ 3 _ 38 _ Ho9.out
  have HB10 : Hid (Below w5.heap.size w5 w10) := by
    show Below _ _ _
    rw [← hW10]; exact HB9.out.setCell (p := ⟨w5.heap.size, 3, none⟩) (Nat.le_refl _) _
  have Hm10 : Hid (w10.heap[w5.heap.size + 1]? = some (.map #[] 0)) := by
    show w10.heap[w5.heap.size + 1]? = _
    rw [← hW10, Below.heap_setCell _ _ _ _ (fun e => by have e' : w5.heap.size + 1 = w5.heap.size := e; omega)]; exact Hm9.out
  have Hk10 : Hid (w10.heap[w5.heap.size + 2]? = some (.map #[] 0)) := by
    show w10.heap[w5.heap.size + 2]? = _
    rw [← hW10, Below.heap_setCell _ _ _ _ (fun e => by have e' : w5.heap.size + 2 = w5.heap.size := e; omega)]; exact Hk9.out
  clear hW10 Ho9 c3 f3 Hm9 Hk9 HB9 m34
  have HS0 : Hid _ := BldS.start vs' (szOf ln yf) Ho10.out Hm10.out Hk10.out HB10.out
  obtain ⟨wd, hwd⟩ : ∃ wd : World, wd = w10 := ⟨_, rfl⟩
  rw [← hwd] at HS0 ⊢
  clear hwd Ho10 Hm10 Hk10 HB10
  go_cut [17, 18] from 19 (fun c1 c2 wc => c1 = .int .i64 0 ∧ c2 = .int .i64 0 ∧ wc = wd)
  case first =>
    go_wp2
    go_meet
    exact ⟨rfl, rfl, rfl⟩
  case rest =>
    obtain ⟨rfl, rfl, rfl⟩ := hcut
    go_step
    exact aseg12 w w5 wc w.heap.size w.heap.size n m ln capv capz cap1 gv gz t w5.heap.size (w5.heap.size + 1) (w5.heap.size + 2) a1 qv qz vs' zs' yf dr iv HB05.out HB05.out.size l0 l2 ht hln Htb5.out (fun h => (H1.out h).imp fun x hx => ⟨hx.1, fun i hi => ⟨(hx.2 i hi).1, bcell HB05.out (hx.2 i hi).2⟩⟩) E0.out (fun h => RowQ.row HV5.out (by rw [E0.out]; exact h)) P0.out O0.out E2.out (fun h => RowQ.row HQ5.out (by rw [E2.out]; exact h)) P2.out O2.out (by omega) (by omega) (by omega) (by omega) HS0.out _ _ _ _ _ _ _ _ _ _ _ _ _ _ _ _ _ _ _ _ _ _ _ _ _ _ _ _ _ _ _ _ _ _ _ _ _ _ _ _ _ _ _ _ _ _ _ _ _ _ _ _ _ _ _ _ _ _ _ _ _ _ _ _ _ _ _ _ _ _ _ _ _ _ _ _ _ _ _ _ _ _ _ _ _ _ _ _ _ _ _ _ _ _ _ _ _ _ _ _ _ _ _ _ _ _ _ _ _ _ _ _ _ _ _ _ _ _ _ _ _ _ _ _ _ _ _ _ _ _ _ _ _ _ _ _ _ _ _ _ _ _ _ _ _ _ _ _ _ _ _ _ _ _ _ _ _ _ _ _ _ _ _ _ _ _ _ _ _ _ _ _ _ _ _ _ _ _ _ _ _ _ _ _ _ _ _ _ _ _ _ _ _ _ _ _ _ _ _ _ _ _ _ _ _ _ _ _ _ _ _ _ _ _ _ _ _ _ _ _ _ _ _ _ _

set_option maxRecDepth 20000 in
set_option maxHeartbeats 4000000 in
theorem alaw_big (a0 a1 a2 : Option Addr) (cap0 cap1 cap2 n ln m : Nat) (t dr iv : Int) (w : World) (h : ¬ (n ≤ 1024 ∧ m ≤ 1024)) :
    Calls Yba.prog 3 #[.slice a0 n cap0, .slice a1 ln cap1, .slice a2 m cap2, .int .u16 t, .int .u64 dr, .int .u64 iv] w fun e w' => e = .returned (.bool true) ∧ Below w.heap.size w w' := by
  by_cases h0 : n ≤ 1024
  · have g0 : ¬ (1024 : Int) < (n : Int) := by omega
    have g1 : (1024 : Int) < (m : Int) := by omega
    clear h h0
    go_enter Yba.func3, Yba.ntmps3
    go_wp2
    go_ret
    exact ⟨rfl, Below.refl _ _⟩
  · have g0 : (1024 : Int) < (n : Int) := by omega
    clear h h0
    go_enter Yba.func3, Yba.ntmps3
    go_wp2
    go_ret
    exact ⟨rfl, Below.refl _ _⟩
end Go.Proofs.Ybulkamjs
