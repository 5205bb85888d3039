/- The law's little functions: keys, values, addresses by a byte. -/
import Derived.Test.YbulkamrgProg
import Derived.WalkKit
import Derived.WalkSpells
import Derived.WalkLawsBesides
import Derived.Below
import Derived.KernelRfl
namespace Go.Proofs.Ybulkamrg
open Go.RowKit

def ks : Nat → ByteArray
  | 0 => ⟨#[97]⟩ | 1 => ⟨#[98]⟩ | 2 => ⟨#[99]⟩ | 3 => ⟨#[100]⟩ | 4 => ⟨#[101]⟩ | _ => ⟨#[102]⟩
def vs : Nat → ByteArray
  | 0 => ⟨#[120]⟩ | _ => ⟨#[]⟩
def ads : Nat → ByteArray
  | 0 => ⟨#[104, 49, 58, 49]⟩ | 1 => ⟨#[104, 50, 58, 50]⟩ | _ => ⟨#[104, 51, 58, 51]⟩

theorem ix81_0 (w : World) : (Instr.index 81 (Value.agg #[Value.string ⟨#[97]⟩, Value.string ⟨#[98]⟩, Value.string ⟨#[99]⟩, Value.string ⟨#[100]⟩, Value.string ⟨#[101]⟩, Value.string ⟨#[102]⟩]) (.int .i64 0)).run Yba.prog w = .ok (.string (ks 0)) w := by kernel_rfl
theorem ix81_1 (w : World) : (Instr.index 81 (Value.agg #[Value.string ⟨#[97]⟩, Value.string ⟨#[98]⟩, Value.string ⟨#[99]⟩, Value.string ⟨#[100]⟩, Value.string ⟨#[101]⟩, Value.string ⟨#[102]⟩]) (.int .i64 1)).run Yba.prog w = .ok (.string (ks 1)) w := by kernel_rfl
theorem ix81_2 (w : World) : (Instr.index 81 (Value.agg #[Value.string ⟨#[97]⟩, Value.string ⟨#[98]⟩, Value.string ⟨#[99]⟩, Value.string ⟨#[100]⟩, Value.string ⟨#[101]⟩, Value.string ⟨#[102]⟩]) (.int .i64 2)).run Yba.prog w = .ok (.string (ks 2)) w := by kernel_rfl
theorem ix81_3 (w : World) : (Instr.index 81 (Value.agg #[Value.string ⟨#[97]⟩, Value.string ⟨#[98]⟩, Value.string ⟨#[99]⟩, Value.string ⟨#[100]⟩, Value.string ⟨#[101]⟩, Value.string ⟨#[102]⟩]) (.int .i64 3)).run Yba.prog w = .ok (.string (ks 3)) w := by kernel_rfl
theorem ix81_4 (w : World) : (Instr.index 81 (Value.agg #[Value.string ⟨#[97]⟩, Value.string ⟨#[98]⟩, Value.string ⟨#[99]⟩, Value.string ⟨#[100]⟩, Value.string ⟨#[101]⟩, Value.string ⟨#[102]⟩]) (.int .i64 4)).run Yba.prog w = .ok (.string (ks 4)) w := by kernel_rfl
theorem ix81_5 (w : World) : (Instr.index 81 (Value.agg #[Value.string ⟨#[97]⟩, Value.string ⟨#[98]⟩, Value.string ⟨#[99]⟩, Value.string ⟨#[100]⟩, Value.string ⟨#[101]⟩, Value.string ⟨#[102]⟩]) (.int .i64 5)).run Yba.prog w = .ok (.string (ks 5)) w := by kernel_rfl
theorem ix71_0 (w : World) : (Instr.index 71 (Value.agg #[Value.string ⟨#[104, 49, 58, 49]⟩, Value.string ⟨#[104, 50, 58, 50]⟩, Value.string ⟨#[104, 51, 58, 51]⟩]) (.int .i64 0)).run Yba.prog w = .ok (.string (ads 0)) w := by kernel_rfl
theorem ix71_1 (w : World) : (Instr.index 71 (Value.agg #[Value.string ⟨#[104, 49, 58, 49]⟩, Value.string ⟨#[104, 50, 58, 50]⟩, Value.string ⟨#[104, 51, 58, 51]⟩]) (.int .i64 1)).run Yba.prog w = .ok (.string (ads 1)) w := by kernel_rfl
theorem ix71_2 (w : World) : (Instr.index 71 (Value.agg #[Value.string ⟨#[104, 49, 58, 49]⟩, Value.string ⟨#[104, 50, 58, 50]⟩, Value.string ⟨#[104, 51, 58, 51]⟩]) (.int .i64 2)).run Yba.prog w = .ok (.string (ads 2)) w := by kernel_rfl
theorem ix80_0 (w : World) : (Instr.index 80 (Value.agg #[Value.string ⟨#[120]⟩, Value.string ⟨#[]⟩]) (.int .i64 0)).run Yba.prog w = .ok (.string (vs 0)) w := by kernel_rfl
theorem ix80_1 (w : World) : (Instr.index 80 (Value.agg #[Value.string ⟨#[120]⟩, Value.string ⟨#[]⟩]) (.int .i64 1)).run Yba.prog w = .ok (.string (vs 1)) w := by kernel_rfl

set_option maxRecDepth 4000 in
set_option maxHeartbeats 1000000 in
theorem ckey_any (b : Nat) (hb : b < 256) (w : World) : Calls Yba.prog 11 #[.int .u8 b] w fun e w' => e = .returned (.string (ks (b % 6))) ∧ w' = w := by
  have h6 : b % 6 = 0 ∨ b % 6 = 1 ∨ b % 6 = 2 ∨ b % 6 = 3 ∨ b % 6 = 4 ∨ b % 6 = 5 := by omega
  rcases h6 with h | h | h | h | h | h
  · have e : (b : Int).tmod 6 = 0 := by rw [Int.tmod_eq_emod_of_nonneg (by omega)]; omega
    have hx := ix81_0 w
    rw [h]
    clear h
    go_enter Yba.func11, Yba.ntmps11
    go_wp2
    go_ret
    exact ⟨rfl, rfl⟩
  · have e : (b : Int).tmod 6 = 1 := by rw [Int.tmod_eq_emod_of_nonneg (by omega)]; omega
    have hx := ix81_1 w
    rw [h]
    clear h
    go_enter Yba.func11, Yba.ntmps11
    go_wp2
    go_ret
    exact ⟨rfl, rfl⟩
  · have e : (b : Int).tmod 6 = 2 := by rw [Int.tmod_eq_emod_of_nonneg (by omega)]; omega
    have hx := ix81_2 w
    rw [h]
    clear h
    go_enter Yba.func11, Yba.ntmps11
    go_wp2
    go_ret
    exact ⟨rfl, rfl⟩
  · have e : (b : Int).tmod 6 = 3 := by rw [Int.tmod_eq_emod_of_nonneg (by omega)]; omega
    have hx := ix81_3 w
    rw [h]
    clear h
    go_enter Yba.func11, Yba.ntmps11
    go_wp2
    go_ret
    exact ⟨rfl, rfl⟩
  · have e : (b : Int).tmod 6 = 4 := by rw [Int.tmod_eq_emod_of_nonneg (by omega)]; omega
    have hx := ix81_4 w
    rw [h]
    clear h
    go_enter Yba.func11, Yba.ntmps11
    go_wp2
    go_ret
    exact ⟨rfl, rfl⟩
  · have e : (b : Int).tmod 6 = 5 := by rw [Int.tmod_eq_emod_of_nonneg (by omega)]; omega
    have hx := ix81_5 w
    rw [h]
    clear h
    go_enter Yba.func11, Yba.ntmps11
    go_wp2
    go_ret
    exact ⟨rfl, rfl⟩

set_option maxRecDepth 4000 in
set_option maxHeartbeats 1000000 in
theorem caddr_any (b : Nat) (hb : b < 256) (w : World) : Calls Yba.prog 4 #[.int .u8 b] w fun e w' => e = .returned (.string (ads (b % 3))) ∧ w' = w := by
  have h6 : b % 3 = 0 ∨ b % 3 = 1 ∨ b % 3 = 2 := by omega
  rcases h6 with h | h | h
  · have e : (b : Int).tmod 3 = 0 := by rw [Int.tmod_eq_emod_of_nonneg (by omega)]; omega
    have hx := ix71_0 w
    rw [h]
    clear h
    go_enter Yba.func4, Yba.ntmps4
    go_wp2
    go_ret
    exact ⟨rfl, rfl⟩
  · have e : (b : Int).tmod 3 = 1 := by rw [Int.tmod_eq_emod_of_nonneg (by omega)]; omega
    have hx := ix71_1 w
    rw [h]
    clear h
    go_enter Yba.func4, Yba.ntmps4
    go_wp2
    go_ret
    exact ⟨rfl, rfl⟩
  · have e : (b : Int).tmod 3 = 2 := by rw [Int.tmod_eq_emod_of_nonneg (by omega)]; omega
    have hx := ix71_2 w
    rw [h]
    clear h
    go_enter Yba.func4, Yba.ntmps4
    go_wp2
    go_ret
    exact ⟨rfl, rfl⟩

set_option maxRecDepth 4000 in
set_option maxHeartbeats 1000000 in
theorem cval_any (b : Nat) (hb : b < 256) (w : World) : Calls Yba.prog 10 #[.int .u8 b] w fun e w' => e = .returned (.string (vs (b / 6 % 2))) ∧ w' = w := by
  have h6 : b / 6 % 2 = 0 ∨ b / 6 % 2 = 1 := by omega
  rcases h6 with h | h
  · have e : (b : Int) / 6 % 2 = 0 := by omega
    have hx := ix80_0 w
    rw [h]
    clear h
    go_enter Yba.func10, Yba.ntmps10
    go_wp2
    go_ret
    exact ⟨rfl, rfl⟩
  · have e : (b : Int) / 6 % 2 = 1 := by omega
    have hx := ix80_1 w
    rw [h]
    clear h
    go_enter Yba.func10, Yba.ntmps10
    go_wp2
    go_ret
    exact ⟨rfl, rfl⟩
end Go.Proofs.Ybulkamrg
