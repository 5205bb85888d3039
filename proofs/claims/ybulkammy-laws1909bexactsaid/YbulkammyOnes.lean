import Derived.Test.YbulkammyRew
namespace Go.Proofs.Ybulkammy
open Go.RowKit
set_option linter.unusedVariables false
set_option linter.unusedSimpArgs false

theorem or32d (x y : Int) (h0 : 0 ≤ x) (h0' : x ≤ 255) (h1 : 0 ≤ y) (h1' : y < 256) : bits .or .u32 (x * 256) y = x * 256 + y := by
  rw [u32_or _ y (by omega) (by omega) h1 (by omega), nat_join 8 _ _ (by omega) (by omega)]; omega

set_option maxHeartbeats 2000000 in
theorem ones_any (g n : Nat) (z : Nat → Int) (w : World) (hz : Oct z) (hn : 20 ≤ n) (hn2 : n ≤ 1024) (hg : g < w.heap.size)
    (hc : ∀ i, i < n → w.cell? ⟨g, i, none⟩ = some (.int .u8 (z i))) :
    Calls Yba.prog 7 #[.slice (some ⟨g, 0, none⟩) n n] w fun e w' => e = .returned (.int .u16 (oc (bs z (10 + 2 * ((n - 20) / 4))))) ∧ ∃ q, w' = w.drewN q := by
  have HC : Hid (∀ i, i < n → w.cell? ⟨g, i, none⟩ = some (.int .u8 (z i))) := hc
  have HZ : Hid (Oct z) := hz
  clear hc hz
  go_enter Yba.func7, Yba.ntmps7
  go_wp2
  go_loopw [4, 5] (fun s i w' => ∃ (m q : Nat), i = .int .i64 (2 * (m : Int)) ∧ s = .int .u32 (oc (bs z m)) ∧ m ≤ 10 + 2 * ((n - 20) / 4) ∧ w' = w.drewN q) (fun _ i _ => n - (intOf i).toNat)
  case atStart => exact ⟨0, 0, by simp, by simp [bs, oc], by omega, rfl⟩
  case round =>
    obtain ⟨m, q, rfl, rfl, hm, rfl⟩ := hrel
    by_cases hlt : m < 10 + 2 * ((n - 20) / 4)
    · by_cases h5 : m = 5
      · have hmb : (2 * (m : Int) == 10) = true := by simp; omega
        have HE : Hid (bs z (m + 1) = bs z m) := by show _ = _; rw [bs, if_pos h5]
        clear h5
        go_wp2
        go_roundw
        case rel => exact ⟨m + 1, q, by go_num, by rw [HE.out], by omega, rfl⟩
        case measure => simp [intOf]; omega
      · have hmb : (2 * (m : Int) == 10) = false := by simp; omega
        have b0 := bs_bd HZ.out m
        have b1 := oc_bd _ b0
        obtain ⟨b2, b3⟩ := b1
        clear b0
        obtain ⟨x0, x1⟩ := HZ.out (2 * m)
        obtain ⟨x2, x3⟩ := HZ.out (2 * m + 1)
        have hor := or32d (z (2 * m)) (z (2 * m + 1)) x0 x1 x2 (by omega)
        have k0 : w.cell? ⟨g, 2 * m, none⟩ = some (.int .u8 (z (2 * m))) := HC.out _ (by omega)
        have k1 : w.cell? ⟨g, 2 * m + 1, none⟩ = some (.int .u8 (z (2 * m + 1))) := HC.out _ (by omega)
        have j0 : (0 : Int) ≤ 2 * (m : Int) := by omega
        have j1 : 2 * (m : Int) < (n : Int) := by omega
        have j2 : 2 * (m : Int) + 1 < (n : Int) := by omega
        have HE : Hid (oc (bs z (m + 1)) = if 65535 < oc (bs z m) + (z (2 * m) * 256 + z (2 * m + 1)) then oc (bs z m) + (z (2 * m) * 256 + z (2 * m + 1)) - 65535 else oc (bs z m) + (z (2 * m) * 256 + z (2 * m + 1))) := by
          show _ = _
          rw [bs, if_neg h5]
          exact oc_add _ _ (bs_bd HZ.out m) (w16_bd HZ.out (2 * m)).1 (w16_bd HZ.out (2 * m)).2
        clear h5
        by_cases hbig : 65535 < oc (bs z m) + (z (2 * m) * 256 + z (2 * m + 1))
        · go_wp2
          go_quiet (fail)
          go_wp2
          go_roundw
          case rel => exact ⟨m + 1, _, by go_num, by rw [HE.out, if_pos hbig], by omega, rfl⟩
          case measure => simp [intOf]; omega
        · go_wp2
          go_quiet (fail)
          go_wp2
          go_roundw
          case rel => exact ⟨m + 1, _, by go_num, by rw [HE.out, if_neg (by omega)], by omega, rfl⟩
          case measure => simp [intOf]; omega
    · obtain ⟨b2, b3⟩ := oc_bd _ (bs_bd HZ.out m)
      go_wp2
      go_ret
      exact ⟨by rw [show 10 + 2 * ((n - 20) / 4) = m by omega]; rfl, _, rfl⟩

end Go.Proofs.Ybulkammy
