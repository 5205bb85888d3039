import Derived.Test.YbulkamjsProg
import Derived.WalkKit
import Derived.WalkSpells
import Derived.WalkLawsBesides
import Derived.Laws.BitsAllLaws
namespace Go.Proofs.Ybulkamjs
open Go.RowKit
set_option linter.unusedVariables false

theorem nat_hi (n : Nat) (h : n < 1073741824) : n &&& 9223372036854775808 = 0 := by
  have h2 : n &&& 2 ^ 63 = n / 2 ^ 63 % 2 * 2 ^ 63 := nat_bit 63 n
  have h3 : n / 2 ^ 63 = 0 := Nat.div_eq_of_lt (by omega)
  rw [h3] at h2
  simpa using h2

theorem and_hi (n : Int) (h0 : 0 ≤ n) (h1 : n < 1073741824) : bits .and .u64 n 9223372036854775808 = 0 := by
  rw [u64_and n _ h0 (by omega) (by omega) (by omega)]
  have := nat_hi n.toNat (by omega)
  simpa using this

theorem and_lo (n : Int) (h0 : 0 ≤ n) (h1 : n < 1073741824) : bits .and .u64 n 1073741823 = n := by
  rw [u64_and n _ h0 (by omega) (by omega) (by omega)]
  have h2 : n.toNat &&& (2 ^ 30 - 1) = n.toNat % 2 ^ 30 := Nat.and_two_pow_sub_one_eq_mod _ _
  have h3 : n.toNat &&& 1073741823 = n.toNat := by rw [show (1073741823 : Nat) = 2 ^ 30 - 1 from rfl, h2]; exact Nat.mod_eq_of_lt (by omega)
  rw [show (1073741823 : Int).toNat = 1073741823 from rfl, h3]; omega

theorem andNot_lo (n : Int) (h0 : 0 ≤ n) (h1 : n < 1073741824) : bits .andNot .u64 n 1073741823 = 0 := by
  rw [u64_andNot n _ h0 (by omega) (by omega) (by omega)]
  have h3 : n.toNat &&& 18446744072635809792 = 0 := by
    apply Nat.eq_of_testBit_eq
    intro i
    rw [Nat.testBit_and, Nat.zero_testBit]
    by_cases hi : i < 30
    · have : (18446744072635809792 : Nat) = 2 ^ 30 * 17179869183 := rfl
      rw [this, Nat.testBit_two_pow_mul]
      simp; intros; omega
    · rw [Nat.testBit_lt_two_pow (show n.toNat < 2 ^ i from Nat.lt_of_lt_of_le (by omega : n.toNat < 2 ^ 30) (Nat.pow_le_pow_right (by omega) (by omega)))]
      rfl
  rw [show (18446744073709551615 - (1073741823 : Int).toNat) = 18446744072635809792 from rfl, h3]; rfl

theorem or_zero (n : Int) (h0 : 0 ≤ n) (h1 : n < 1073741824) : bits .or .u64 0 n = n := by
  rw [u64_or 0 _ (by omega) (by omega) (by omega) (by omega)]
  simp; omega

theorem and_and_hi (n m : Int) (h0 : 0 ≤ n) (h1 : n < 1073741824) (h2 : 0 ≤ m) (h3 : m < 1073741824) : bits .and .u64 (bits .and .u64 n m) 9223372036854775808 = 0 := by
  rw [u64_and n m h0 (by omega) h2 (by omega)]
  have : n.toNat &&& m.toNat ≤ n.toNat := Nat.and_le_left
  exact and_hi _ (by omega) (by omega)

set_option maxHeartbeats 400000 in
theorem nsec_any (b o : Nat) (n : Int) (w : World) (h0 : 0 ≤ n) (h1 : n < 1073741824) (hc : w.cell? ⟨b, o, none⟩ = some (.int .u64 n)) :
    Calls Yba.prog 28 #[.pointer (some ⟨b, o, none⟩)] w fun e w' => e = .returned (.int .i32 n) ∧ w' = w := by
  have hb := and_lo n h0 h1
  go_enter Yba.func28, Yba.ntmps28
  go_wp2
  go_ret
  exact ⟨rfl, rfl⟩

set_option maxHeartbeats 400000 in
theorem sec_any (b o : Nat) (n x : Int) (w : World) (h0 : 0 ≤ n) (h1 : n < 1073741824) (hc : w.cell? ⟨b, o, none⟩ = some (.int .u64 n)) (hx : w.cell? ⟨b, o + 1, none⟩ = some (.int .i64 x)) :
    Calls Yba.prog 36 #[.pointer (some ⟨b, o, none⟩)] w fun e w' => e = .returned (.int .i64 x) ∧ w' = w := by
  have hb := and_hi n h0 h1
  go_enter Yba.func36, Yba.ntmps36
  go_wp2
  go_ret
  exact ⟨rfl, rfl⟩

set_option maxHeartbeats 400000 in
theorem addSec_any (b o : Nat) (n x d : Int) (w : World) (h0 : 0 ≤ n) (h1 : n < 1073741824) (hx0 : -1000000000000 ≤ x) (hx1 : x ≤ 1000000000000) (hd0 : -1000000000000 ≤ d) (hd1 : d ≤ 1000000000000)
    (hc : w.cell? ⟨b, o, none⟩ = some (.int .u64 n)) (hx : w.cell? ⟨b, o + 1, none⟩ = some (.int .i64 x)) (hf : w.frozen? ⟨b, o + 1, none⟩ = false) :
    Calls Yba.prog 29 #[.pointer (some ⟨b, o, none⟩), .int .i64 d] w fun e w' => e = .returned (.tuple #[]) ∧ w' = w.setCell ⟨b, o + 1, none⟩ (.int .i64 (x + d)) := by
  have hb := and_hi n h0 h1
  by_cases hp : 0 < d
  · have hs : x < x + d := by omega
    go_enter Yba.func29, Yba.ntmps29
    go_wp2
    go_end0
    exact ⟨rfl, rfl⟩
  · have hs : ¬ x < x + d := by omega
    go_enter Yba.func29, Yba.ntmps29
    go_wp2
    go_end0
    exact ⟨rfl, rfl⟩


theorem tdm (d : Int) : (0 ≤ d ∧ d.tdiv 1000000000 = d / 1000000000 ∧ d.tmod 1000000000 = d % 1000000000) ∨ (d < 0 ∧ d.tdiv 1000000000 = -((-d) / 1000000000) ∧ d.tmod 1000000000 = -((-d) % 1000000000)) := by
  by_cases h : 0 ≤ d
  · exact .inl ⟨h, Int.tdiv_eq_ediv_of_nonneg h, Int.tmod_eq_emod_of_nonneg h⟩
  · refine .inr ⟨by omega, ?_, ?_⟩
    · rw [← Int.tdiv_eq_ediv_of_nonneg (by omega), Int.neg_tdiv, Int.neg_neg]
    · rw [← Int.tmod_eq_emod_of_nonneg (by omega), Int.neg_tmod, Int.neg_neg]
theorem tdiv_bd (d : Int) (hd0 : -9223372036854775808 ≤ d) (hd1 : d ≤ 9223372036854775807) : -9223372037 < d.tdiv 1000000000 ∧ d.tdiv 1000000000 < 9223372037 := by
  have := tdm d; omega
theorem tmod_bd (d : Int) : -1000000000 < d.tmod 1000000000 ∧ d.tmod 1000000000 < 1000000000 := by
  have := tdm d; omega
theorem add_hi (n x d : Int) (h0 : 0 ≤ n) (h1 : n < 1000000000) (hp : 1000000000 ≤ n + d.tmod 1000000000) :
    n + d.tmod 1000000000 - 1000000000 = (n + d) % 1000000000 ∧ x + (d.tdiv 1000000000 + 1) = x + (n + d) / 1000000000 := by
  have := tdm d; omega
theorem add_lt (n x d : Int) (h0 : 0 ≤ n) (h1 : n < 1000000000) (hp : n + d.tmod 1000000000 < 0) :
    n + d.tmod 1000000000 + 1000000000 = (n + d) % 1000000000 ∧ x + (d.tdiv 1000000000 - 1) = x + (n + d) / 1000000000 := by
  have := tdm d; omega
theorem add_mid (n x d : Int) (h0 : 0 ≤ n) (h1 : n < 1000000000) (hp : ¬ 1000000000 ≤ n + d.tmod 1000000000) (hm : ¬ n + d.tmod 1000000000 < 0) :
    n + d.tmod 1000000000 = (n + d) % 1000000000 ∧ x + d.tdiv 1000000000 = x + (n + d) / 1000000000 := by
  have := tdm d; omega

set_option maxHeartbeats 1000000 in
theorem add_any (n x d : Int) (w : World) (h0 : 0 ≤ n) (h1 : n < 1000000000) (hx0 : -900000000000 ≤ x) (hx1 : x ≤ 900000000000) (hd0 : -9223372036854775808 ≤ d) (hd1 : d ≤ 9223372036854775807) :
    Calls Yba.prog 11 #[.agg #[.int .u64 n, .int .i64 x, .pointer none], .int .i64 d] w fun e w' => e = .returned (.agg #[.int .u64 ((n + d) % 1000000000), .int .i64 (x + (n + d) / 1000000000), .pointer none]) ∧ Below w.heap.size w w' := by
  have q0 : -9223372037 < d.tdiv 1000000000 ∧ d.tdiv 1000000000 < 9223372037 := tdiv_bd d hd0 hd1
  have r0 : -1000000000 < d.tmod 1000000000 ∧ d.tmod 1000000000 < 1000000000 := tmod_bd d
  obtain ⟨q1, q2⟩ := q0
  obtain ⟨r1, r2⟩ := r0
  by_cases hp : 1000000000 ≤ n + d.tmod 1000000000
  · have HR : Hid (n + d.tmod 1000000000 - 1000000000 = (n + d) % 1000000000 ∧ x + (d.tdiv 1000000000 + 1) = x + (n + d) / 1000000000) := add_hi n x d h0 h1 hp
    have z0 := andNot_lo n h0 (by omega)
    have z1 := or_zero (n + d.tmod 1000000000 - 1000000000) (by omega) (by omega)
    have z2 := and_hi (n + d.tmod 1000000000 - 1000000000) (by omega) (by omega)
    go_enter Yba.func11, Yba.ntmps11
    go_wp2_with (first | (go_at_call 28; refine (nsec_any _ _ n _ h0 (by omega) (by simp)).mono ?_; rintro e w' ⟨rfl, rfl⟩) | (go_at_call 29; refine (addSec_any _ _ (n + d.tmod 1000000000 - 1000000000) x _ _ (by omega) (by omega) (by omega) (by omega) (by omega) (by omega) (by simp) (by simp) (by simp)).mono ?_; rintro e w' ⟨rfl, rfl⟩))
    rw [HR.out.1, HR.out.2]
    exact bodyPost_ret (v := .agg #[.int .u64 ((n + d) % 1000000000), .int .i64 (x + (n + d) / 1000000000), .pointer none]) (by simp [results, Yba.results11, go_sem]) rfl ⟨rfl, ((Below.refl _ _).alloc (Nat.le_refl _) _).alloc (by simp) _⟩
  · by_cases hm : n + d.tmod 1000000000 < 0
    · have HR : Hid (n + d.tmod 1000000000 + 1000000000 = (n + d) % 1000000000 ∧ x + (d.tdiv 1000000000 - 1) = x + (n + d) / 1000000000) := add_lt n x d h0 h1 hm
      have z0 := andNot_lo n h0 (by omega)
      have z1 := or_zero (n + d.tmod 1000000000 + 1000000000) (by omega) (by omega)
      have z2 := and_hi (n + d.tmod 1000000000 + 1000000000) (by omega) (by omega)
      go_enter Yba.func11, Yba.ntmps11
      go_wp2_with (first | (go_at_call 28; refine (nsec_any _ _ n _ h0 (by omega) (by simp)).mono ?_; rintro e w' ⟨rfl, rfl⟩) | (go_at_call 29; refine (addSec_any _ _ (n + d.tmod 1000000000 + 1000000000) x _ _ (by omega) (by omega) (by omega) (by omega) (by omega) (by omega) (by simp) (by simp) (by simp)).mono ?_; rintro e w' ⟨rfl, rfl⟩))
      rw [HR.out.1, HR.out.2]
      exact bodyPost_ret (v := .agg #[.int .u64 ((n + d) % 1000000000), .int .i64 (x + (n + d) / 1000000000), .pointer none]) (by simp [results, Yba.results11, go_sem]) rfl ⟨rfl, ((Below.refl _ _).alloc (Nat.le_refl _) _).alloc (by simp) _⟩
    · have HR : Hid (n + d.tmod 1000000000 = (n + d) % 1000000000 ∧ x + d.tdiv 1000000000 = x + (n + d) / 1000000000) := add_mid n x d h0 h1 hp hm
      have z0 := andNot_lo n h0 (by omega)
      have z1 := or_zero (n + d.tmod 1000000000) (by omega) (by omega)
      have z2 := and_hi (n + d.tmod 1000000000) (by omega) (by omega)
      go_enter Yba.func11, Yba.ntmps11
      go_wp2_with (first | (go_at_call 28; refine (nsec_any _ _ n _ h0 (by omega) (by simp)).mono ?_; rintro e w' ⟨rfl, rfl⟩) | (go_at_call 29; refine (addSec_any _ _ (n + d.tmod 1000000000) x _ _ (by omega) (by omega) (by omega) (by omega) (by omega) (by omega) (by simp) (by simp) (by simp)).mono ?_; rintro e w' ⟨rfl, rfl⟩))
      rw [HR.out.1, HR.out.2]
      exact bodyPost_ret (v := .agg #[.int .u64 ((n + d) % 1000000000), .int .i64 (x + (n + d) / 1000000000), .pointer none]) (by simp [results, Yba.results11, go_sem]) rfl ⟨rfl, ((Below.refl _ _).alloc (Nat.le_refl _) _).alloc (by simp) _⟩


set_option maxHeartbeats 400000 in
theorem isZero_yes (l : Value) (w : World) :
    Calls Yba.prog 34 #[.agg #[.int .u64 0, .int .i64 0, l]] w fun e w' => e = .returned (.bool true) ∧ Below w.heap.size w w' := by
  go_enter Yba.func34, Yba.ntmps34
  go_wp2
  go_ret
  exact ⟨rfl, (Below.refl _ _).alloc (Nat.le_refl _) _⟩

set_option maxHeartbeats 400000 in
theorem isZero_no (n x : Int) (l : Value) (w : World) (h : n ≠ 0 ∨ x ≠ 0) :
    Calls Yba.prog 34 #[.agg #[.int .u64 n, .int .i64 x, l]] w fun e w' => e = .returned (.bool false) ∧ Below w.heap.size w w' := by
  by_cases hn : n = 0
  · have hx : (x == 0) = false := by simp; omega
    subst hn
    go_enter Yba.func34, Yba.ntmps34
    go_wp2
    go_ret
    exact ⟨rfl, (Below.refl _ _).alloc (Nat.le_refl _) _⟩
  · have hx : (n == 0) = false := by simp; omega
    go_enter Yba.func34, Yba.ntmps34
    go_wp2
    go_ret
    exact ⟨rfl, (Below.refl _ _).alloc (Nat.le_refl _) _⟩

set_option maxHeartbeats 400000 in
theorem equal_same (n x : Int) (w : World) (h0 : 0 ≤ n) (h1 : n < 1000000000) :
    Calls Yba.prog 22 #[.agg #[.int .u64 n, .int .i64 x, .pointer none], .agg #[.int .u64 n, .int .i64 x, .pointer none]] w fun e w' => e = .returned (.bool true) ∧ Below w.heap.size w w' := by
  have z0 := and_hi n h0 (by omega)
  have z1 := and_and_hi n n h0 (by omega) h0 (by omega)
  have z2 := and_lo n h0 (by omega)
  go_enter Yba.func22, Yba.ntmps22
  go_wp2
  go_ret
  exact ⟨rfl, ((Below.refl _ _).alloc (Nat.le_refl _) _).alloc (by simp) _⟩

def bef (n x m y : Int) : Bool := decide (x < y ∨ x = y ∧ n < m)

set_option maxHeartbeats 1000000 in
theorem before_any (n x m y : Int) (w : World) (h0 : 0 ≤ n) (h1 : n < 1000000000) (g0 : 0 ≤ m) (g1 : m < 1000000000) :
    Calls Yba.prog 24 #[.agg #[.int .u64 n, .int .i64 x, .pointer none], .agg #[.int .u64 m, .int .i64 y, .pointer none]] w fun e w' => e = .returned (.bool (bef n x m y)) ∧ Below w.heap.size w w' := by
  have z0 := and_hi n h0 (by omega)
  have y0 := and_hi m g0 (by omega)
  have z1 := and_and_hi n m h0 (by omega) g0 (by omega)
  have z2 := and_lo n h0 (by omega)
  have y2 := and_lo m g0 (by omega)
  by_cases hl : x < y
  · have HR : Hid (bef n x m y = true) := by simp [Hid, bef, hl]
    go_enter Yba.func24, Yba.ntmps24
    go_wp2
    go_ret
    exact ⟨by rw [HR.out]; rfl, ((Below.refl _ _).alloc (Nat.le_refl _) _).alloc (by simp) _⟩
  · by_cases he : x = y
    · subst he
      have hq : (x == x) = true := by simp
      have HR : Hid (bef n x m x = decide (n < m)) := by simp [Hid, bef]
      go_enter Yba.func24, Yba.ntmps24
      go_wp2
      go_ret
      exact ⟨by rw [HR.out]; rfl, ((Below.refl _ _).alloc (Nat.le_refl _) _).alloc (by simp) _⟩
    · have hq : (x == y) = false := by simp; omega
      have HR : Hid (bef n x m y = false) := by simp [Hid, bef]; omega
      clear he
      go_enter Yba.func24, Yba.ntmps24
      go_wp2
      go_ret
      exact ⟨by rw [HR.out]; rfl, ((Below.refl _ _).alloc (Nat.le_refl _) _).alloc (by simp) _⟩

end Go.Proofs.Ybulkamjs
