import Derived.Test.YbulkammySum
import Derived.Deep.DeepFit
namespace Go.Proofs.Ybulkammy
open Go.RowKit
set_option linter.unusedVariables false
set_option linter.unusedSimpArgs false

/-- All that was there but block g is as it was. -/
structure But (g : Nat) (w w' : World) : Prop where
  os : w'.os = w.os
  tape : w'.tape = w.tape
  output : w'.output = w.output
  size : w.heap.size ≤ w'.heap.size
  block : ∀ k, k < w.heap.size → k ≠ g → w'.heap[k]? = w.heap[k]?

theorem But.of_below {g : Nat} {w w' : World} (h : Below w.heap.size w w') : But g w w' := ⟨h.os, h.tape, h.output, h.size, fun k hk _ => h.block k hk⟩
theorem But.drew {g : Nat} {w w' : World} (h : But g w w') : But g w w'.drew := ⟨h.os, h.tape, h.output, h.size, h.block⟩
theorem But.alloc {g : Nat} {w w' : World} (h : But g w w') (o : Obj) : But g w (w'.alloc o) :=
  ⟨h.os, h.tape, h.output, Nat.le_trans h.size (by simp), fun k hk hg => (Below.heap_alloc _ _ _ (Nat.lt_of_lt_of_le hk h.size)).trans (h.block k hk hg)⟩
theorem But.set {g : Nat} {w w' : World} (h : But g w w') (j : Nat) (v : Value) : But g w (w'.setCell ⟨g, j, none⟩ v) :=
  ⟨h.os, h.tape, h.output, Nat.le_trans h.size (by simp [World.setCell]), fun k hk hg => (Below.heap_setCell _ _ _ _ hg).trans (h.block k hk hg)⟩
theorem But.cell {g : Nat} {w w' : World} (h : But g w w') {p : Addr} (hp : p.block < w.heap.size) (hg : p.block ≠ g) : w'.cell? p = w.cell? p := World.cell?_of_block (w := w) (h.block p.block hp hg)
theorem But.below {g B : Nat} {w w' : World} (h : But g w w') (hB : B ≤ g) (hB' : B ≤ w.heap.size) : Below B w w' := ⟨h.os, h.tape, h.output, h.size, fun k hk => h.block k (by omega) (by omega)⟩

theorem sum2 (z : Nat → Int) (hz : Oct z) (p t c : Int) (k n : Nat) (hk : k ≤ 1024) (hp0 : 0 ≤ p) (hp1 : p ≤ 255) (ht0 : 0 ≤ t) (ht1 : t ≤ 65535) :
    IntKind.u64.wrap (IntKind.u64.wrap (hs z k + IntKind.u64.wrap (p * 65536 - z 9 * 65536)) + IntKind.u64.wrap (IntKind.u64.wrap t - IntKind.u64.wrap (w16 z 2))) = hs (put z p t 0) k := by
  have a := hs_bd (put_oct hz (c := 0) ⟨hp0, hp1⟩ ⟨ht0, ht1⟩ ⟨by omega, by omega⟩) k
  have b := hs_bd hz k
  have e := hs_put (z := z) p t 0 k
  have h9 := hz 9; have h2 := hz 2; have h3 := hz 3
  simp only [IntKind.wrap_u64, w16, Nat.reduceAdd]
  omega

/-- the checksum that the rewriting lays -/
def cks (z : Nat → Int) (p t : Int) (k : Nat) : Int := 65535 - oc (hs (put z p t 0) k)

theorem cell_set {w : World} {g j i : Nat} {v u : Value} (h : w.cell? ⟨g, i, none⟩ = some u) : (w.setCell ⟨g, j, none⟩ v).cell? ⟨g, i, none⟩ = some (if i = j then v else u) := by
  by_cases e : i = j
  · subst e; rw [if_pos rfl]; exact World.cell?_setCell_same _ _ _ h
  · rw [if_neg e, World.cell?_setCell_other _ _ _ _ (fun q => e (congrArg Addr.off q).symm)]; exact h

theorem rew_end (w2 : World) (g n : Nat) (z : Nat → Int) (p t c : Int) (hg : g < w2.heap.size) (h : ∀ i, i < n → w2.cell? ⟨g, i, none⟩ = some (.int .u8 (z i))) (i : Nat) (hi : i < n) :
    (((((((w2.setCell ⟨g, 9, none⟩ (.int .u8 p)).setCell ⟨g, 2, none⟩ (.int .u8 (t / 256))).setCell ⟨g, 3, none⟩ (.int .u8 (t % 256))).setCell ⟨g, 10, none⟩ (.int .u8 (c / 256))).setCell ⟨g, 11, none⟩ (.int .u8 (c % 256))).alloc (.cells #[] 32)).alloc (.cells #[] 32)).drew.drew.cell? ⟨g, i, none⟩ = some (.int .u8 (put z p t c i)) := by
  rw [World.cell?_drew, World.cell?_drew, World.cell?_alloc_past _ _ _ (by simp [World.setCell]; omega), World.cell?_alloc_past _ _ _ (by simp [World.setCell]; omega)]
  rw [cell_set (cell_set (cell_set (cell_set (cell_set (h i hi)))))]
  unfold put
  repeat' split
  all_goals first | rfl | omega

set_option maxHeartbeats 4000000 in
theorem rew_any (g n : Nat) (z : Nat → Int) (p t : Int) (w : World) (hz : Oct z) (hn : 20 ≤ n) (hn2 : n ≤ 1024) (hg : g < w.heap.size)
    (hp0 : 0 ≤ p) (hp1 : p ≤ 255) (ht0 : 0 ≤ t) (ht1 : t ≤ 65535)
    (hc : ∀ i, i < n → w.cell? ⟨g, i, none⟩ = some (.int .u8 (z i))) (hf : ∀ i, i < n → w.frozen? ⟨g, i, none⟩ = false) :
    Calls Yba.prog 6 #[.slice (some ⟨g, 0, none⟩) n n, .int .u8 p, .int .u16 t] w fun e w' => e = .returned (.tuple #[]) ∧ (∀ i, i < n → w'.cell? ⟨g, i, none⟩ = some (.int .u8 (put z p t (cks z p t ((n - 20) / 4)) i))) ∧ (∀ i, i < n → w'.frozen? ⟨g, i, none⟩ = false) ∧ But g w w' := by
  have HSS : Hid (_ ∧ _) := ⟨sum2 z hz p t 0 ((n - 20) / 4) n (by omega) hp0 hp1 ht0 ht1, hs_bd (put_oct hz (c := 0) ⟨hp0, hp1⟩ ⟨ht0, ht1⟩ ⟨by omega, by omega⟩) ((n - 20) / 4)⟩
  obtain ⟨y0, y1⟩ := hs_bd hz ((n - 20) / 4)
  have y2 : hs z ((n - 20) / 4) ≤ 9000000000000 := by omega
  clear y1
  obtain ⟨v0, v1⟩ := hz 9
  obtain ⟨v2, v3⟩ := w16_bd hz 2
  have hc9 : w.cell? ⟨g, 9, none⟩ = some (.int .u8 (z 9)) := hc 9 (by omega)
  have e2 : ¬ n = 2 := by omega
  have e10 : ¬ n = 10 := by omega
  have i9 : (9 : Int) < (n : Int) := by omega
  have i4 : (4 : Int) ≤ (n : Int) := by omega
  have i12 : (12 : Int) ≤ (n : Int) := by omega
  have HC : Hid (∀ i, i < n → w.cell? ⟨g, i, none⟩ = some (.int .u8 (z i))) := hc
  have HF : Hid (∀ i, i < n → w.frozen? ⟨g, i, none⟩ = false) := hf
  have HZ : Hid (Oct z) := hz
  clear hc hf hz
  go_enter Yba.func6, Yba.ntmps6
  go_wp2_with fail
  refine (hsum_any g n z w HZ.out hn hn2 hg HC.out).mono ?_
  rintro e w1 ⟨rfl, hb1⟩
  have k9 := cell_later hb1 hc9
  go_wp2_with fail
  generalize hs1 : IntKind.u64.wrap (hs z ((n - 20) / 4) + IntKind.u64.wrap (p * 65536 - z 9 * 65536)) = s1
  generalize IntKind.u64.wrap (p * 65536 - z 9 * 65536) = s0
  have HS1 : Hid (IntKind.u64.wrap (hs z ((n - 20) / 4) + IntKind.u64.wrap (p * 65536 - z 9 * 65536)) = s1) := hs1
  clear hs1
  go_region_held3 (fun w' => Below w.heap.size w w') (first | exact hb1.drew | assumption)
    (first | (go_at_call 9; go_fit (u16z g 2 2 (n - 2) n z w w1.drew HZ.out (by omega) (by omega) hg HC.out hb1.drew); rintro e w2 ⟨rfl, hb2⟩))
  rename_i hHeld
  clear hHeld
  generalize hs2 : IntKind.u64.wrap (s1 + IntKind.u64.wrap (IntKind.u64.wrap t - IntKind.u64.wrap (w16 z 2))) = s2
  generalize IntKind.u64.wrap (IntKind.u64.wrap t - IntKind.u64.wrap (w16 z 2)) = s3
  generalize IntKind.u64.wrap t = s4
  generalize IntKind.u64.wrap (w16 z 2) = s5
  have HS2 : Hid (s2 = hs (put z p t 0) ((n - 20) / 4)) := by rw [← hs2, ← HS1.out]; exact HSS.out.1
  have r0 : 0 ≤ s2 := by rw [HS2.out]; exact HSS.out.2.1
  have r1 : s2 ≤ 9000000000000000000 := by rw [HS2.out]; have := HSS.out.2.2; omega
  obtain ⟨r2, r3⟩ := oc_bd s2 r0
  clear hs2 HS1 HSS k9 hc9
  have hg2 : g < w2.heap.size := Nat.lt_of_lt_of_le hg hb2.size
  have m2 := cell_later hb2 (HC.out 2 (by omega))
  have m3 := cell_later hb2 (HC.out 3 (by omega))
  have m9 := cell_later hb2 (HC.out 9 (by omega))
  have m10 := cell_later hb2 (HC.out 10 (by omega))
  have m11 := cell_later hb2 (HC.out 11 (by omega))
  have n2 : w2.frozen? ⟨g, 2, none⟩ = false := (hb2.frozen hg).trans (HF.out 2 (by omega))
  have n3 : w2.frozen? ⟨g, 3, none⟩ = false := (hb2.frozen hg).trans (HF.out 3 (by omega))
  have n9 : w2.frozen? ⟨g, 9, none⟩ = false := (hb2.frozen hg).trans (HF.out 9 (by omega))
  have n10 : w2.frozen? ⟨g, 10, none⟩ = false := (hb2.frozen hg).trans (HF.out 10 (by omega))
  have n11 : w2.frozen? ⟨g, 11, none⟩ = false := (hb2.frozen hg).trans (HF.out 11 (by omega))
  go_wp2_with fail
  go_region_held3 (fun w' => True) (trivial)
    (first | (go_at_call 10; refine (put16_any g 2 2 (n - 2) t (.int .u8 (z 2)) (.int .u8 (z 3)) _ (by omega) ht0 ht1 (by go_simp) (by go_simp) (by go_simp) (by go_simp) (by go_simp)).mono ?_; rintro e w' ⟨rfl, rfl⟩))
  rename_i hHeld
  clear hHeld
  go_wp2_with fail
  go_region_held3 (fun w' => True) (trivial)
    (first | (go_at_call 11; refine (fold_any s2 _ r0 r1).mono ?_; rintro e w' ⟨rfl, rfl⟩) | (go_at_call 10; refine (put16_any g 10 2 (n - 10) (65535 - oc s2) (.int .u8 (z 10)) (.int .u8 (z 11)) _ (by omega) (by omega) (by omega) (by go_simp) (by go_simp) (by go_simp) (by go_simp) (by go_simp)).mono ?_; rintro e w' ⟨rfl, rfl⟩))
  rename_i hHeld
  clear hHeld
  go_wp2
  go_end0
  have HK : cks z p t ((n - 20) / 4) = 65535 - oc s2 := by rw [HS2.out]; rfl
  refine ⟨rfl, fun i hi => ?_, fun i hi => ?_, ?_⟩
  · rw [HK]
    exact rew_end w2 g n z p t _ hg2 (fun j hj => cell_later hb2 (HC.out j hj)) i hi
  · have := (hb2.frozen (p := ⟨g, i, none⟩) hg).trans (HF.out i hi)
    rw [World.frozen?_drew, World.frozen?_drew, World.frozen?_alloc_past _ _ _ (by simp [World.setCell]; omega), World.frozen?_alloc_past _ _ _ (by simp [World.setCell]; omega)]
    simp [this]
  · exact (((((((((But.of_below hb2).set _ _).set _ _).set _ _).set _ _).set _ _).alloc _).alloc _).drew).drew

end Go.Proofs.Ybulkammy
