import Derived.Test.YbulkamjsTime
namespace Go.Proofs.Ybulkamjs
open Go.RowKit
set_option linter.unusedVariables false

set_option maxHeartbeats 1000000 in
theorem add_eq (n x d : Int) (w : World) (h0 : 0 ≤ n) (h1 : n < 1000000000) (hx0 : -900000000000 ≤ x) (hx1 : x ≤ 900000000000) (hd0 : -9223372036854775808 ≤ d) (hd1 : d ≤ 9223372036854775807) :
    Calls Yba.prog 11 #[.agg #[.int .u64 n, .int .i64 x, .pointer none], .int .i64 d] w fun e w' => e = .returned (.agg #[.int .u64 ((n + d) % 1000000000), .int .i64 (x + (n + d) / 1000000000), .pointer none]) ∧ w' = (w.alloc (.cells #[.int .u64 ((n + d) % 1000000000), .int .i64 (x + (n + d) / 1000000000), .pointer none] 28)).alloc (.cells #[.int .u64 ((n + d) % 1000000000), .int .i64 (x + (n + d) / 1000000000), .pointer none] 28) := by
  have q0 : -9223372037 < d.tdiv 1000000000 ∧ d.tdiv 1000000000 < 9223372037 := tdiv_bd d hd0 hd1
  have r0 : -1000000000 < d.tmod 1000000000 ∧ d.tmod 1000000000 < 1000000000 := tmod_bd d
  obtain ⟨q1, q2⟩ := q0
  obtain ⟨r1, r2⟩ := r0
  by_cases hp : 1000000000 ≤ n + d.tmod 1000000000
  · have HR : Hid (n + d.tmod 1000000000 - 1000000000 = (n + d) % 1000000000 ∧ x + (d.tdiv 1000000000 + 1) = x + (n + d) / 1000000000) := add_hi n x d h0 h1 hp
    have z0 := andNot_lo n h0 (by omega)
    have z1 := or_zero (n + d.tmod 1000000000 - 1000000000) (by omega) (by omega)
    have z2 := and_hi (n + d.tmod 1000000000 - 1000000000) (by omega) (by omega)
    go_enter Yba.func11, Yba.ntmps11
    go_wp2_with (first | (go_at_call 28; refine (nsec_any _ _ n _ h0 (by omega) (by simp)).mono ?_; rintro e w' ⟨rfl, rfl⟩) | (go_at_call 29; refine (addSec_any _ _ (n + d.tmod 1000000000 - 1000000000) x _ _ (by omega) (by omega) (by omega) (by omega) (by omega) (by omega) (by simp) (by simp) (by simp)).mono ?_; rintro e w' ⟨rfl, rfl⟩))
    rw [HR.out.1, HR.out.2]
    exact bodyPost_ret (v := .agg #[.int .u64 ((n + d) % 1000000000), .int .i64 (x + (n + d) / 1000000000), .pointer none]) (by simp [results, Yba.results11, go_sem]) rfl ⟨rfl, rfl⟩
  · by_cases hm : n + d.tmod 1000000000 < 0
    · have HR : Hid (n + d.tmod 1000000000 + 1000000000 = (n + d) % 1000000000 ∧ x + (d.tdiv 1000000000 - 1) = x + (n + d) / 1000000000) := add_lt n x d h0 h1 hm
      have z0 := andNot_lo n h0 (by omega)
      have z1 := or_zero (n + d.tmod 1000000000 + 1000000000) (by omega) (by omega)
      have z2 := and_hi (n + d.tmod 1000000000 + 1000000000) (by omega) (by omega)
      go_enter Yba.func11, Yba.ntmps11
      go_wp2_with (first | (go_at_call 28; refine (nsec_any _ _ n _ h0 (by omega) (by simp)).mono ?_; rintro e w' ⟨rfl, rfl⟩) | (go_at_call 29; refine (addSec_any _ _ (n + d.tmod 1000000000 + 1000000000) x _ _ (by omega) (by omega) (by omega) (by omega) (by omega) (by omega) (by simp) (by simp) (by simp)).mono ?_; rintro e w' ⟨rfl, rfl⟩))
      rw [HR.out.1, HR.out.2]
      exact bodyPost_ret (v := .agg #[.int .u64 ((n + d) % 1000000000), .int .i64 (x + (n + d) / 1000000000), .pointer none]) (by simp [results, Yba.results11, go_sem]) rfl ⟨rfl, rfl⟩
    · have HR : Hid (n + d.tmod 1000000000 = (n + d) % 1000000000 ∧ x + d.tdiv 1000000000 = x + (n + d) / 1000000000) := add_mid n x d h0 h1 hp hm
      have z0 := andNot_lo n h0 (by omega)
      have z1 := or_zero (n + d.tmod 1000000000) (by omega) (by omega)
      have z2 := and_hi (n + d.tmod 1000000000) (by omega) (by omega)
      go_enter Yba.func11, Yba.ntmps11
      go_wp2_with (first | (go_at_call 28; refine (nsec_any _ _ n _ h0 (by omega) (by simp)).mono ?_; rintro e w' ⟨rfl, rfl⟩) | (go_at_call 29; refine (addSec_any _ _ (n + d.tmod 1000000000) x _ _ (by omega) (by omega) (by omega) (by omega) (by omega) (by omega) (by simp) (by simp) (by simp)).mono ?_; rintro e w' ⟨rfl, rfl⟩))
      rw [HR.out.1, HR.out.2]
      exact bodyPost_ret (v := .agg #[.int .u64 ((n + d) % 1000000000), .int .i64 (x + (n + d) / 1000000000), .pointer none]) (by simp [results, Yba.results11, go_sem]) rfl ⟨rfl, rfl⟩


set_option maxHeartbeats 1000000 in
theorem before_eq (n x m y : Int) (w : World) (h0 : 0 ≤ n) (h1 : n < 1000000000) (g0 : 0 ≤ m) (g1 : m < 1000000000) :
    Calls Yba.prog 24 #[.agg #[.int .u64 n, .int .i64 x, .pointer none], .agg #[.int .u64 m, .int .i64 y, .pointer none]] w fun e w' => e = .returned (.bool (bef n x m y)) ∧ w' = (w.alloc (.cells #[.int .u64 n, .int .i64 x, .pointer none] 28)).alloc (.cells #[.int .u64 m, .int .i64 y, .pointer none] 28) := by
  have z0 := and_hi n h0 (by omega)
  have y0 := and_hi m g0 (by omega)
  have z1 := and_and_hi n m h0 (by omega) g0 (by omega)
  have z2 := and_lo n h0 (by omega)
  have y2 := and_lo m g0 (by omega)
  by_cases hl : x < y
  · have HR : Hid (bef n x m y = true) := by simp [Hid, bef, hl]
    go_enter Yba.func24, Yba.ntmps24
    go_wp2
    go_ret
    exact ⟨by rw [HR.out]; rfl, rfl⟩
  · by_cases he : x = y
    · subst he
      have hq : (x == x) = true := by simp
      have HR : Hid (bef n x m x = decide (n < m)) := by simp [Hid, bef]
      go_enter Yba.func24, Yba.ntmps24
      go_wp2
      go_ret
      exact ⟨by rw [HR.out]; rfl, rfl⟩
    · have hq : (x == y) = false := by simp; omega
      have HR : Hid (bef n x m y = false) := by simp [Hid, bef]; omega
      clear he
      go_enter Yba.func24, Yba.ntmps24
      go_wp2
      go_ret
      exact ⟨by rw [HR.out]; rfl, rfl⟩


end Go.Proofs.Ybulkamjs
