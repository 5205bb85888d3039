/- A function of slices.Sort at uint16: the walk that the kit has at int, turned to this program by a small program (tools/reaim.py). -/
import Derived.Test.YbulkamjsU7a
namespace Go.Proofs.Ybulkamjs
open Go.RowKit Go.Sort Go.Proofs
set_option linter.unusedVariables false
set_option linter.unusedSimpArgs false
set_option maxHeartbeats 1000000 in
set_option maxRecDepth 100000 in
theorem breakPatterns_int_goU (blk off cap a L : Nat) (d : Array Int) (w : World) (hH : Holds (Value.int .u16) w blk off d) (hblk : blk < w.heap.size) (hb : a + L ≤ d.size) (hsz : d.size < 4611686018427387904) (h8 : 8 ≤ L) :
    Calls Yba.prog 39 #[.slice (some ⟨blk, off, none⟩) d.size cap, .int .i64 a, .int .i64 ((a + L : Nat) : Int)] w fun e w' =>
      e = .returned (.tuple #[]) ∧ ∃ n os, w' = grow (putRow (Value.int .u16) (Sort.ahead w n) blk off (breakPatterns d a (a + L))) os := by
  rw [breakPatterns_eq d a L h8]
  obtain ⟨M, hM⟩ : ∃ M : Nat, M = 1 <<< bitsLen L := ⟨_, rfl⟩
  have hM1 : 1 ≤ M := by rw [hM, Nat.one_shiftLeft]; exact Nat.two_pow_pos _
  have hM2 : M ≤ 2 * L := by rw [hM, Nat.one_shiftLeft]; exact two_pow_bitsLen_le (by omega)
  have hNP : ∀ w, Calls Yba.prog 55 #[.int .i64 (L : Int)] w fun e w' => e = .returned (.int .u64 (M : Int)) ∧ w' = w := by rw [hM]; exact fun w => nextPowerOfTwoU L (by omega) w
  rw [← hM]
  clear hM
  have HH : Hid (Holds (Value.int .u16) w blk off d) := hH
  have HST : Hid (w.alloc (Obj.cells #[.int .u64 (L : Int)] 161) = grow (putRow (Value.int .u16) (Sort.ahead w 0) blk off d) #[Obj.cells #[.int .u64 ((UInt64.ofNat L).toNat : Int)] 161]) := by
    show _ = _
    rw [show Sort.ahead w 0 = w from rfl, putRow_self _ _ _ _ _ hH, alloc_eq_grow, show (UInt64.ofNat L).toNat = L from by simp; omega]
  clear hH
  go_enter Yba.func39, Yba.ntmps39
  go_wp2_with (first | (go_at_call 55; rw [show ((a : Int) + (L : Int) - (a : Int)) = (L : Int) by omega]; refine (hNP _).mono ?_; rintro e w' ⟨rfl, rfl⟩))
  go_loopw [9] (fun vi wr => ∃ (t n : Nat) (r : UInt64) (dk : Array Int), vi = .int .i64 ((a + L / 4 * 2 - 1 + t : Nat) : Int) ∧ t ≤ 3 ∧ dk.size = d.size ∧
      wr = grow (putRow (Value.int .u16) (Sort.ahead w n) blk off dk) #[Obj.cells #[.int .u64 (r.toNat : Int)] 161] ∧
      bpRest a L M (a + L / 4 * 2 - 1) (3 - t) t (r, dk) = bpRest a L M (a + L / 4 * 2 - 1) 3 0 (UInt64.ofNat L, d)) (fun vi _ => a + L / 4 * 2 + 3 - (intOf vi).toNat)
  case atStart => exact ⟨0, 0, UInt64.ofNat L, d, by congr 1; omega, by omega, rfl, HST.out, rfl⟩
  case round =>
    obtain ⟨t, n, r, dk, rfl, ht, hsk, hw, hR⟩ := hrel
    obtain ⟨R, hRr⟩ : ∃ R : Nat, R = r.toNat := ⟨_, rfl⟩
    have lR : R < 18446744073709551616 := by rw [hRr]; exact r.toNat_lt
    obtain ⟨R', hR'⟩ : ∃ R' : Nat, R' = xorNextN R := ⟨_, rfl⟩
    have lR' : R' < 18446744073709551616 := by rw [hR']; exact xorNextN_lt R lR
    obtain ⟨O, hO⟩ : ∃ O : Nat, O = R' &&& (M - 1) := ⟨_, rfl⟩
    have lO : O ≤ M - 1 := by rw [hO]; exact Nat.and_le_right
    have eAnd : bits .and .u64 (R' : Int) ((M : Int) - 1) = (O : Int) := by
      rw [show ((M : Int) - 1) = ((M - 1 : Nat) : Int) by omega, bits_and_u64_nat _ _ lR' (by omega), hO]
    obtain ⟨G, hG⟩ : ∃ G : Nat → Int, ∀ x, G x = dk[x]! := ⟨fun x => dk[x]!, fun _ => rfl⟩
    have hz : (putRow (Value.int .u16) (Sort.ahead w n) blk off dk).heap.size = w.heap.size := by simp
    have hcw : ∀ x, x < d.size → wr.cell? ⟨blk, off + x, none⟩ = some (.int .u16 (G x)) := fun x hx => by
      rw [hw, cell?_grow _ _ _ (by rw [hz]; exact hblk), hG]; exact cell?_putRow _ _ _ _ d dk (holds_ahead _ _ _ _ _ _ HH.out) hsk x (by omega)
    have hfw : ∀ x, x < d.size → wr.frozen? ⟨blk, off + x, none⟩ = false := fun x hx => by
      rw [hw, frozen?_grow _ _ _ (by rw [hz]; exact hblk), frozen?_putRow]; exact ((holds_ahead _ _ n _ _ _ HH.out) x hx).2
    have hcB : wr.cell? ⟨w.heap.size, 0, none⟩ = some (.int .u64 (R : Int)) := by rw [hw, hRr, ← hz]; exact grow_one_cell _ _ _
    have hfB : wr.frozen? ⟨w.heap.size, 0, none⟩ = false := by rw [hw, ← hz]; exact grow_one_frozen _ _ _
    have hNext : Calls Yba.prog 56 #[.pointer (some ⟨w.heap.size, 0, none⟩)] wr fun e w' => e = .returned (.int .u64 (R' : Int)) ∧ w' = (wr.setCell ⟨w.heap.size, 0, none⟩ (.int .u64 (R' : Int))).drewN 3 := by
      rw [hR']; exact xorshift_NextU _ _ R lR wr hcB hfB
    have HW : Hid (wr = grow (putRow (Value.int .u16) (Sort.ahead w n) blk off dk) #[Obj.cells #[.int .u64 (r.toNat : Int)] 161]) := hw
    have HG : Hid (∀ x, G x = dk[x]!) := hG
    have HR : Hid (bpRest a L M (a + L / 4 * 2 - 1) (3 - t) t (r, dk) = bpRest a L M (a + L / 4 * 2 - 1) 3 0 (UInt64.ofNat L, d)) := hR
    have HN : Hid (R' = (xorNext r).toNat ∧ O = (xorNext r).toNat &&& (M - 1)) := by
      have e : R' = (xorNext r).toNat := by rw [hR', hRr, xorNext_toNat]
      exact ⟨e, by rw [hO, e]⟩
    clear hw hG hR hRr hR' hO
    go_wp2_with (first | (go_at_call 56; refine hNext.mono ?_; rintro e w' ⟨rfl, rfl⟩))
    ·
      have hLO : L ≤ O := by omega
      by_cases hEq : a + L / 4 * 2 - 1 + t = a + (O - L)
      all_goals
        go_region
        all_goals go_wp2
        go_roundw
        case rel =>
          refine ⟨t + 1, n + 4, xorNext r, swp dk (a + L / 4 * 2 - 1 + t) (a + (O - L)), by first | rfl | (congr 1 <;> omega), by omega, by rw [size_swp]; exact hsk, ?_, ?_⟩
          · (try rw [hEq])     
            rw [HW.out, HN.out.1]
            simp only [HG.out]
            exact step_world (Value.int .u16) w n 4 blk off dk _ _ hblk (by omega) (by omega) _ _ _
          · rw [← HR.out, bp_step a L M _ t r dk (O - L) (by omega) (by rw [← HN.out.2, if_pos (by omega)])]
        case measure => simp [intOf]; omega
    · have hLO : ¬ L ≤ O := by omega
      by_cases hEq : a + L / 4 * 2 - 1 + t = a + O
      all_goals
        go_region
        all_goals go_wp2
        go_roundw
        case rel =>
          refine ⟨t + 1, n + 4, xorNext r, swp dk (a + L / 4 * 2 - 1 + t) (a + O), by first | rfl | (congr 1 <;> omega), by omega, by rw [size_swp]; exact hsk, ?_, ?_⟩
          · (try rw [hEq])     
            rw [HW.out, HN.out.1]
            simp only [HG.out]
            exact step_world (Value.int .u16) w n 4 blk off dk _ _ hblk (by omega) (by omega) _ _ _
          · rw [← HR.out, bp_step a L M _ t r dk O (by omega) (by rw [← HN.out.2, if_neg (by omega)])]
        case measure => simp [intOf]; omega
    ·
      obtain rfl : t = 3 := by omega
      go_end0
      exact ⟨rfl, n, _, by rw [← HR.out, HW.out]; rfl⟩

theorem breakPatterns_intU (blk off cap a b : Nat) (d : Array Int) (w : World) (hH : Holds (Value.int .u16) w blk off d) (hblk : blk < w.heap.size) (hab : a ≤ b) (hb : b ≤ d.size) (hsz : d.size < 4611686018427387904) :
    Calls Yba.prog 39 #[.slice (some ⟨blk, off, none⟩) d.size cap, .int .i64 a, .int .i64 b] w fun e w' =>
      e = .returned (.tuple #[]) ∧ ∃ n os, w' = grow (putRow (Value.int .u16) (Sort.ahead w n) blk off (breakPatterns d a b)) os := by
  obtain ⟨L, rfl⟩ : ∃ L, b = a + L := ⟨b - a, by omega⟩
  by_cases h8 : 8 ≤ L
  · exact breakPatterns_int_goU blk off cap a L d w hH hblk hb hsz h8
  · have hv : breakPatterns d a (a + L) = d := by unfold breakPatterns; simp only [Nat.add_sub_cancel_left]; rw [if_neg h8]
    rw [hv]
    have HST : Hid (w = grow (putRow (Value.int .u16) (Sort.ahead w 0) blk off d) #[]) := by
      show _ = _
      rw [grow_empty, show Sort.ahead w 0 = w from rfl, putRow_self _ _ _ _ _ hH]
    clear hH
    go_enter Yba.func39, Yba.ntmps39
    go_wp2
    go_end0
    exact ⟨rfl, 0, #[], HST.out⟩

end Go.Proofs.Ybulkamjs
