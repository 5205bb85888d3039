import Derived.Test.YbulkammyBin
namespace Go.Proofs.Ybulkammy
open Go.RowKit
set_option linter.unusedVariables false
set_option linter.unusedSimpArgs false

theorem u32z (g o n c m : Nat) (z : Nat → Int) (w0 w : World) (hz : Oct z) (hn : 4 ≤ n) (hm : o + 4 ≤ m) (hg : g < w0.heap.size) (hc : ∀ i, i < m → w0.cell? ⟨g, i, none⟩ = some (.int .u8 (z i))) (hb : Below w0.heap.size w0 w) :
    Calls Yba.prog 12 #[.agg #[], .slice (some ⟨g, o, none⟩) n c] w fun e w' => e = .returned (.int .u32 (w32 z o)) ∧ Below w0.heap.size w0 w' := by
  have a0 := hz o; have a1 := hz (o + 1); have a2 := hz (o + 2); have a3 := hz (o + 3)
  refine (u32_any g o n c (z o) (z (o + 1)) (z (o + 2)) (z (o + 3)) w hn a0.1 a0.2 a1.1 a1.2 a2.1 a2.2 a3.1 a3.2 (Nat.lt_of_lt_of_le hg hb.size)
    (cell_later hb (hc _ (by omega))) (cell_later hb (hc _ (by omega))) (cell_later hb (hc _ (by omega))) (cell_later hb (hc _ (by omega)))).mono ?_
  rintro e w' ⟨rfl, h⟩
  exact ⟨rfl, hb.trans (h.mono hb.size)⟩

theorem u16z (g o n c m : Nat) (z : Nat → Int) (w0 w : World) (hz : Oct z) (hn : 2 ≤ n) (hm : o + 2 ≤ m) (hg : g < w0.heap.size) (hc : ∀ i, i < m → w0.cell? ⟨g, i, none⟩ = some (.int .u8 (z i))) (hb : Below w0.heap.size w0 w) :
    Calls Yba.prog 9 #[.agg #[], .slice (some ⟨g, o, none⟩) n c] w fun e w' => e = .returned (.int .u16 (w16 z o)) ∧ Below w0.heap.size w0 w' := by
  have a0 := hz o; have a1 := hz (o + 1)
  refine (u16_any g o n c (z o) (z (o + 1)) w hn a0.1 a0.2 a1.1 a1.2 (Nat.lt_of_lt_of_le hg hb.size)
    (cell_later hb (hc _ (by omega))) (cell_later hb (hc _ (by omega)))).mono ?_
  rintro e w' ⟨rfl, h⟩
  exact ⟨rfl, hb.trans (h.mono hb.size)⟩

theorem wsum0 (z : Nat → Int) (hz : Oct z) :
    IntKind.u64.wrap (IntKind.u64.wrap (IntKind.u64.wrap (IntKind.u64.wrap (IntKind.u64.wrap (w32 z 0) + IntKind.u64.wrap (w32 z 4)) + IntKind.u64.wrap (IntKind.u64.wrap (w16 z 8) * 65536)) + IntKind.u64.wrap (w32 z 12)) + IntKind.u64.wrap (w32 z 16)) = hs z 0 := by
  have c0 := w32_bd hz 0; have c1 := w32_bd hz 4; have c2 := w16_bd hz 8; have c3 := w32_bd hz 12; have c4 := w32_bd hz 16
  simp only [IntKind.wrap_u64, hs]
  omega

/-- A slice's length, for a loop's measure. -/
def lenOf : Value → Nat | .slice _ n _ => n | _ => 0

theorem hs_step {z : Nat → Int} (hz : Oct z) (k n : Nat) (hn2 : n ≤ 1024) (h : 20 + 4 * k + 4 ≤ n) : IntKind.u64.wrap (hs z k + IntKind.u64.wrap (w32 z (20 + 4 * k))) = hs z (k + 1) := by
  have c0 := w32_bd hz (20 + 4 * k); have c1 := hs_bd hz k
  simp only [IntKind.wrap_u64, hs]
  omega

set_option maxHeartbeats 4000000 in
theorem hsum_any (g n : Nat) (z : Nat → Int) (w : World) (hz : Oct z) (hn : 20 ≤ n) (hn2 : n ≤ 1024) (hg : g < w.heap.size) (hc : ∀ i, i < n → w.cell? ⟨g, i, none⟩ = some (.int .u8 (z i))) :
    Calls Yba.prog 8 #[.slice (some ⟨g, 0, none⟩) n n] w fun e w' => e = .returned (.int .u64 (hs z ((n - 20) / 4))) ∧ Below w.heap.size w w' := by
  have HC : Hid (∀ i, i < n → w.cell? ⟨g, i, none⟩ = some (.int .u8 (z i))) := hc
  clear hc
  obtain ⟨a0, b0⟩ := w32_bd hz 0
  obtain ⟨a1, b1⟩ := w32_bd hz 4
  obtain ⟨a2, b2⟩ := w16_bd hz 8
  obtain ⟨a3, b3⟩ := w32_bd hz 12
  obtain ⟨a4, b4⟩ := w32_bd hz 16
  have HZ : Hid (Oct z) := hz
  clear hz
  have i4 : (4 : Int) ≤ (n : Int) := by omega
  have i8 : (8 : Int) ≤ (n : Int) := by omega
  have i10 : (10 : Int) ≤ (n : Int) := by omega
  have i16 : (16 : Int) ≤ (n : Int) := by omega
  have i20 : (20 : Int) ≤ (n : Int) := by omega
  go_enter Yba.func8, Yba.ntmps8
  go_wp2
  go_region_held3 (fun w' => Below w.heap.size w w') (first | exact (Below.refl _ _).drew | assumption)
    (first | (go_at_call 12; refine (u32z _ _ _ _ n z w _ HZ.out (by omega) (by omega) hg HC.out (by assumption)).mono ?_; rintro e w' ⟨rfl, hb1⟩) | (go_at_call 9; refine (u16z _ _ _ _ n z w _ HZ.out (by omega) (by omega) hg HC.out (by assumption)).mono ?_; rintro e w' ⟨rfl, hb1⟩))
  rw [wsum0 z HZ.out]
  rename_i hHeld
  clear hHeld
  go_wp2
  all_goals
    go_loopw [3, 4] (fun u o w' => ∃ (k m : Nat) (ad : Option Addr), o = .slice ad m m ∧ u = .int .u64 (hs z k) ∧ n = 20 + 4 * k + m ∧ Hid (0 < m → ad = some ⟨g, 20 + 4 * k, none⟩) ∧ Below w.heap.size w w') (fun _ o _ => lenOf o)
    case atStart => first | exact ⟨0, 0, some ⟨g, 0, none⟩, rfl, rfl, by omega, fun h => absurd h (by omega), hb1⟩ | exact ⟨0, n - 20, some ⟨g, 20, none⟩, rfl, rfl, by omega, fun _ => rfl, hb1⟩
    case round =>
      obtain ⟨k, m, ad, rfl, rfl, hnk, had, hbk⟩ := hrel
      by_cases h4 : 4 ≤ m
      · obtain rfl : ad = some ⟨g, 20 + 4 * k, none⟩ := had.out (by omega)
        clear had
        have j4 : (4 : Int) ≤ (m : Int) := by omega
        obtain ⟨q0, q1⟩ := w32_bd HZ.out (20 + 4 * k)
        obtain ⟨q2, q3⟩ := hs_bd HZ.out k
        have q4 : hs z k ≤ 9000000000000 := by omega
        clear q3
        first
        | (exfalso; omega)
        | (go_wp2_with (first | (go_at_call 12; refine (u32z _ _ _ _ n z w _ HZ.out (by omega) (by omega) hg HC.out hbk).mono ?_; rintro e w' ⟨rfl, hbn⟩))
           all_goals
             go_roundw
             case rel => exact ⟨k + 1, m - 4, _, ⟨rfl, by omega⟩, rfl, by omega, fun h => (by first | rfl | omega)⟩
             case measure => simp [lenOf] <;> omega)
      · go_wp2
        go_ret
        exact ⟨by rw [show (n - 20) / 4 = k by omega]; rfl, hbk⟩

end Go.Proofs.Ybulkammy
