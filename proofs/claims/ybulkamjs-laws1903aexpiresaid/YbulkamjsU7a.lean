/- A function of slices.Sort at uint16: the walk that the kit has at int, turned to this program by a small program (tools/reaim.py). -/
import Derived.Test.YbulkamjsULen
import Derived.Test.YbulkamjsU0
import Derived.Sort.Walk7
namespace Go.Proofs.Ybulkamjs
open Go.RowKit Go.Sort Go.Proofs
set_option linter.unusedVariables false
set_option linter.unusedSimpArgs false
theorem xorshift_NextU (rb ro X : Nat) (hX : X < 18446744073709551616) (w : World) (hc : w.cell? ⟨rb, ro, none⟩ = some (.int .u64 X)) (hf : w.frozen? ⟨rb, ro, none⟩ = false) :
    Calls Yba.prog 56 #[.pointer (some ⟨rb, ro, none⟩)] w fun e w' => e = .returned (.int .u64 (xorNextN X : Nat)) ∧ w' = (w.setCell ⟨rb, ro, none⟩ (.int .u64 (xorNextN X : Nat))).drewN 3 := by
  obtain ⟨A, hA⟩ : ∃ A : Nat, A = X ^^^ (X * 8192 % 18446744073709551616) := ⟨_, rfl⟩
  obtain ⟨B, hB⟩ : ∃ B : Nat, B = A ^^^ (A / 128) := ⟨_, rfl⟩
  obtain ⟨C, hC⟩ : ∃ C : Nat, C = B ^^^ (B * 131072 % 18446744073709551616) := ⟨_, rfl⟩
  have lA : A < 18446744073709551616 := by rw [hA]; exact Nat.xor_lt_two_pow (n := 64) (by omega) (by omega)
  have lB : B < 18446744073709551616 := by rw [hB]; exact Nat.xor_lt_two_pow (n := 64) (by omega) (by omega)
  have e1 : bits .xor .u64 (X : Int) (IntKind.u64.wrap ((X : Int) * 8192)) = (A : Int) := by
    rw [IntKind.wrap_u64, show ((X : Int) * 8192 % 18446744073709551616) = ((X * 8192 % 18446744073709551616 : Nat) : Int) by omega, bits_xor_u64_nat _ _ hX (by omega), hA]
  have e2 : bits .xor .u64 (A : Int) ((A : Int) / 128) = (B : Int) := by
    rw [show ((A : Int) / 128) = ((A / 128 : Nat) : Int) by omega, bits_xor_u64_nat _ _ lA (by omega), hB]
  have e3 : bits .xor .u64 (B : Int) (IntKind.u64.wrap ((B : Int) * 131072)) = (C : Int) := by
    rw [IntKind.wrap_u64, show ((B : Int) * 131072 % 18446744073709551616) = ((B * 131072 % 18446744073709551616 : Nat) : Int) by omega, bits_xor_u64_nat _ _ lB (by omega), hC]
  have hv : xorNextN X = C := by unfold xorNextN; simp only []; rw [← hA, ← hB, ← hC]
  rw [hv]
  clear hA hB hC hv
  have hss : ∀ v v', (w.setCell ⟨rb, ro, none⟩ v).setCell ⟨rb, ro, none⟩ v' = w.setCell ⟨rb, ro, none⟩ v' := setCell_setCell w rb ro
  go_enter Yba.func56, Yba.ntmps56
  go_wp2
  go_region
  all_goals go_wp2
  all_goals go_region
  all_goals go_wp2
  all_goals go_region
  all_goals go_wp2
  go_ret
  exact ⟨rfl, rfl⟩

theorem nextPowerOfTwoU (n : Nat) (hn : n < 4611686018427387904) (w : World) :
    Calls Yba.prog 55 #[.int .i64 n] w fun e w' => e = .returned (.int .u64 ((1 <<< bitsLen n : Nat) : Int)) ∧ w' = w := by
  have hLen : ∀ w, Calls Yba.prog 26 #[.int .u64 (n : Int)] w fun e w' => e = .returned (.int .i64 (bitsLen n : Nat)) ∧ w' = w := fun w => by
    have h := bits_LenU (n : Int) w (by omega) (by omega)
    rwa [Int.toNat_natCast, bitLen_eq _ (by omega)] at h
  have hk : bitsLen n ≤ 62 := (bitsLen_le_iff n 62).2 (by omega)
  have hp := wrap_two_pow (bitsLen n) hk
  go_enter Yba.func55, Yba.ntmps55
  go_wp2_with (first | (go_at_call 26; refine (hLen _).mono ?_; rintro e w' ⟨rfl, rfl⟩))
  go_ret
  exact ⟨rfl, rfl⟩

end Go.Proofs.Ybulkamjs
