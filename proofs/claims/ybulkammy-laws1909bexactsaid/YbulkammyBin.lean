import Derived.Test.YbulkammyPlain
import Derived.Test.YbulkammyProg
import Derived.WalkKit
import Derived.WalkSpells
import Derived.WalkLawsBesides
import Derived.Laws.BitsAllLaws
import Derived.Deep.RegionHeld3
import Derived.Deep.QuietTactic
import Derived.BigQuiet
namespace Go.Proofs.Ybulkammy
open Go.RowKit
set_option linter.unusedVariables false
set_option linter.unusedSimpArgs false

theorem or16 (b0 b1 : Int) (h0 : 0 ≤ b0) (h0' : b0 ≤ 255) (h1 : 0 ≤ b1) (h1' : b1 ≤ 255) : bits .or .u16 b1 (b0 * 256) = b0 * 256 + b1 := by
  rw [u16_or b1 _ h1 (by omega) (by omega) (by omega), Nat.or_comm, nat_join 8 _ _ (by omega) (by omega)]; omega
theorem or32a (x y : Int) (h0 : 0 ≤ x) (h0' : x ≤ 255) (h1 : 0 ≤ y) (h1' : y < 256) : bits .or .u32 y (x * 256) = x * 256 + y := by
  rw [u32_or y _ h1 (by omega) (by omega) (by omega), Nat.or_comm, nat_join 8 _ _ (by omega) (by omega)]; omega
theorem or32b (x y : Int) (h0 : 0 ≤ x) (h0' : x ≤ 255) (h1 : 0 ≤ y) (h1' : y < 65536) : bits .or .u32 y (x * 65536) = x * 65536 + y := by
  rw [u32_or y _ h1 (by omega) (by omega) (by omega), Nat.or_comm, nat_join 16 _ _ (by omega) (by omega)]; omega
theorem or32c (x y : Int) (h0 : 0 ≤ x) (h0' : x ≤ 255) (h1 : 0 ≤ y) (h1' : y < 16777216) : bits .or .u32 y (x * 16777216) = x * 16777216 + y := by
  rw [u32_or y _ h1 (by omega) (by omega) (by omega), Nat.or_comm, nat_join 24 _ _ (by omega) (by omega)]; omega

set_option maxHeartbeats 1000000 in
theorem u16_any (g o n c : Nat) (b0 b1 : Int) (w : World) (hn : 2 ≤ n) (h0 : 0 ≤ b0) (h0' : b0 ≤ 255) (h1 : 0 ≤ b1) (h1' : b1 ≤ 255)
    (hg : g < w.heap.size)
    (c0 : w.cell? ⟨g, o, none⟩ = some (.int .u8 b0)) (c1 : w.cell? ⟨g, o + 1, none⟩ = some (.int .u8 b1)) :
    Calls Yba.prog 9 #[.agg #[], .slice (some ⟨g, o, none⟩) n c] w fun e w' => e = .returned (.int .u16 (b0 * 256 + b1)) ∧ Below w.heap.size w w' := by
  have i0 : (0 : Int) < (n : Int) := by omega
  have i1 : (1 : Int) < (n : Int) := by omega
  have q := or16 b0 b1 h0 h0' h1 h1'
  go_enter Yba.func9, Yba.ntmps9
  go_wp2
  go_quiet (fail)
  go_wp2
  go_ret
  exact ⟨rfl, below_drewN ((Below.refl _ _).alloc (Nat.le_refl _) _) _⟩

set_option maxHeartbeats 1000000 in
theorem u32_any (g o n c : Nat) (b0 b1 b2 b3 : Int) (w : World) (hn : 4 ≤ n) (h0 : 0 ≤ b0) (h0' : b0 ≤ 255) (h1 : 0 ≤ b1) (h1' : b1 ≤ 255) (h2 : 0 ≤ b2) (h2' : b2 ≤ 255) (h3 : 0 ≤ b3) (h3' : b3 ≤ 255)
    (hg : g < w.heap.size)
    (c0 : w.cell? ⟨g, o, none⟩ = some (.int .u8 b0)) (c1 : w.cell? ⟨g, o + 1, none⟩ = some (.int .u8 b1)) (c2 : w.cell? ⟨g, o + 2, none⟩ = some (.int .u8 b2)) (c3 : w.cell? ⟨g, o + 3, none⟩ = some (.int .u8 b3)) :
    Calls Yba.prog 12 #[.agg #[], .slice (some ⟨g, o, none⟩) n c] w fun e w' => e = .returned (.int .u32 (b0 * 16777216 + b1 * 65536 + b2 * 256 + b3)) ∧ Below w.heap.size w w' := by
  have i0 : (0 : Int) < (n : Int) := by omega
  have i1 : (1 : Int) < (n : Int) := by omega
  have i2 : (2 : Int) < (n : Int) := by omega
  have i3 : (3 : Int) < (n : Int) := by omega
  have q1 := or32a b2 b3 h2 h2' h3 (by omega)
  have q2 := or32b b1 (b2 * 256 + b3) h1 h1' (by omega) (by omega)
  have q3 := or32c b0 (b1 * 65536 + (b2 * 256 + b3)) h0 h0' (by omega) (by omega)
  have HR : Hid (b0 * 16777216 + (b1 * 65536 + (b2 * 256 + b3)) = b0 * 16777216 + b1 * 65536 + b2 * 256 + b3) := by show _ = _; omega
  go_enter Yba.func12, Yba.ntmps12
  go_wp2
  go_quiet (fail)
  go_wp2
  go_ret
  exact ⟨by rw [← HR.out]; rfl, below_drewN ((Below.refl _ _).alloc (Nat.le_refl _) _) _⟩

set_option maxHeartbeats 1000000 in
theorem put16_any (g o n c : Nat) (v : Int) (x0 x1 : Value) (w : World) (hn : 2 ≤ n) (h0 : 0 ≤ v) (h0' : v ≤ 65535)
    (hg : g < w.heap.size)
    (c0 : w.cell? ⟨g, o, none⟩ = some x0) (c1 : w.cell? ⟨g, o + 1, none⟩ = some x1) (f0 : w.frozen? ⟨g, o, none⟩ = false) (f1 : w.frozen? ⟨g, o + 1, none⟩ = false) :
    Calls Yba.prog 10 #[.agg #[], .slice (some ⟨g, o, none⟩) n c, .int .u16 v] w fun e w' => e = .returned (.tuple #[]) ∧ w' = ((w.setCell ⟨g, o, none⟩ (.int .u8 (v / 256))).setCell ⟨g, o + 1, none⟩ (.int .u8 (v % 256))).alloc (.cells #[] 32) := by
  have i0 : (0 : Int) < (n : Int) := by omega
  have i1 : (1 : Int) < (n : Int) := by omega
  go_enter Yba.func10, Yba.ntmps10
  go_wp2
  go_end0
  exact ⟨rfl, rfl⟩

theorem and64 (t : Int) (h0 : 0 ≤ t) (h1 : t < 18446744073709551616) : bits .and .u64 t 65535 = t % 65536 := by
  rw [u64_and t _ h0 h1 (by omega) (by omega)]
  have h2 : t.toNat &&& (2 ^ 16 - 1) = t.toNat % 2 ^ 16 := Nat.and_two_pow_sub_one_eq_mod _ _
  rw [show ((65535 : Int).toNat) = 2 ^ 16 - 1 from rfl, h2]; omega

theorem xor16 (t : Int) (h0 : 0 ≤ t) (h1 : t ≤ 65535) : bits .xor .u16 IntKind.u16.max t = 65535 - t := by
  have hm : IntKind.u16.max = 65535 := rfl
  rw [hm, u16_xor _ t (by omega) (by omega) h0 (by omega)]
  have h2 : (65535 : Nat) ^^^ t.toNat = 65535 - t.toNat := by
    have := @BitVec.toNat_not 16 (BitVec.ofNat 16 t.toNat)
    have h3 := congrArg BitVec.toNat (BitVec.allOnes_xor (x := BitVec.ofNat 16 t.toNat))
    rw [this, BitVec.toNat_xor] at h3
    simp at h3
    rw [Nat.mod_eq_of_lt (by omega)] at h3
    exact h3
  rw [show ((65535 : Int).toNat) = 65535 from rfl, h2]; omega

set_option maxHeartbeats 1000000 in
theorem fold_any (s : Int) (w : World) (h0 : 0 ≤ s) (h1 : s ≤ 9000000000000000000) :
    Calls Yba.prog 11 #[.int .u64 s] w fun e w' => e = .returned (.int .u16 (65535 - oc s)) ∧ w' = w := by
  go_enter Yba.func11, Yba.ntmps11
  go_wp2
  go_loop [0] (fun u => ∃ t : Int, u = .int .u64 t ∧ Hid (Eqv t s) ∧ 0 ≤ t ∧ t ≤ s) (fun u => (intOf u).toNat)
  case atStart => exact ⟨s, rfl, ⟨rfl, Iff.rfl, h0, h0⟩, h0, Int.le_refl _⟩
  case round =>
    obtain ⟨t, rfl, he, ht0, ht1⟩ := hrel
    have hand := and64 t ht0 (by omega)
    by_cases hb : 65535 < t
    · go_wp2
      go_round
      case rel => exact ⟨t % 65536 + t / 65536, rfl, (fold_eqv s t he.out hb).1, by omega, by have := (fold_eqv s t he.out hb).2; omega⟩
      case measure => have := (fold_eqv s t he.out hb).2; simp [intOf]; omega
    · have hx := xor16 t ht0 (by omega)
      have HO : Hid (65535 - t = 65535 - oc s) := by
        have := oc_eqv he.out; rw [oc_small t ht0 (by omega)] at this; rw [← this]; exact rfl
      go_wp2
      go_ret
      exact ⟨by rw [← HO.out]; rfl, rfl⟩

end Go.Proofs.Ybulkammy
