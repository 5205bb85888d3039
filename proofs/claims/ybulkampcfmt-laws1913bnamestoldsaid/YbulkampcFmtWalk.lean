import Derived.Test.YbulkampcFmtProg
import Derived.WalkKit
import Derived.WalkSpells
import Derived.WalkLawsBesides
namespace Go.Proofs.YbulkampcFmt
open Go.RowKit
set_option linter.unusedVariables false
set_option linter.unusedSimpArgs false

set_option maxHeartbeats 1000000 in
theorem names_0 (x : Int) (w : World) (x0 : 0 ≤ x) (x1 : x ≤ 255) (hx : x % 6 = 0) (hc : w.cell? ⟨0, 1, none⟩ = some (.string ⟨#[73, 83]⟩)) :
    Calls Ybaf.prog 3 #[.int .u8 x] w fun e w' => e = .returned (.bool true) ∧ w' = w := by
  go_enter Ybaf.func3, Ybaf.ntmps3
  go_wp2
  go_ret
  exact ⟨rfl, rfl⟩

set_option maxHeartbeats 1000000 in
theorem names_1 (x : Int) (w : World) (x0 : 0 ≤ x) (x1 : x ≤ 255) (hx : x % 6 = 1) (hc : w.cell? ⟨0, 2, none⟩ = some (.string ⟨#[73, 88]⟩)) :
    Calls Ybaf.prog 3 #[.int .u8 x] w fun e w' => e = .returned (.bool true) ∧ w' = w := by
  go_enter Ybaf.func3, Ybaf.ntmps3
  go_wp2
  go_ret
  exact ⟨rfl, rfl⟩

set_option maxHeartbeats 1000000 in
theorem names_2 (x : Int) (w : World) (x0 : 0 ≤ x) (x1 : x ≤ 255) (hx : x % 6 = 2) (hc : w.cell? ⟨0, 3, none⟩ = some (.string ⟨#[83]⟩)) :
    Calls Ybaf.prog 3 #[.int .u8 x] w fun e w' => e = .returned (.bool true) ∧ w' = w := by
  go_enter Ybaf.func3, Ybaf.ntmps3
  go_wp2
  go_ret
  exact ⟨rfl, rfl⟩

set_option maxHeartbeats 1000000 in
theorem names_3 (x : Int) (w : World) (x0 : 0 ≤ x) (x1 : x ≤ 255) (hx : x % 6 = 3) (hc : w.cell? ⟨0, 4, none⟩ = some (.string ⟨#[83, 73, 88]⟩)) :
    Calls Ybaf.prog 3 #[.int .u8 x] w fun e w' => e = .returned (.bool true) ∧ w' = w := by
  go_enter Ybaf.func3, Ybaf.ntmps3
  go_wp2
  go_ret
  exact ⟨rfl, rfl⟩

set_option maxHeartbeats 1000000 in
theorem names_4 (x : Int) (w : World) (x0 : 0 ≤ x) (x1 : x ≤ 255) (hx : x % 6 = 4) (hc : w.cell? ⟨0, 5, none⟩ = some (.string ⟨#[85]⟩)) :
    Calls Ybaf.prog 3 #[.int .u8 x] w fun e w' => e = .returned (.bool true) ∧ w' = w := by
  go_enter Ybaf.func3, Ybaf.ntmps3
  go_wp2
  go_ret
  exact ⟨rfl, rfl⟩

set_option maxHeartbeats 1000000 in
theorem names_5 (x : Int) (w : World) (x0 : 0 ≤ x) (x1 : x ≤ 255) (hx : x % 6 = 5) (hc : w.cell? ⟨0, 6, none⟩ = some (.string ⟨#[88]⟩)) :
    Calls Ybaf.prog 3 #[.int .u8 x] w fun e w' => e = .returned (.bool true) ∧ w' = w := by
  go_enter Ybaf.func3, Ybaf.ntmps3
  go_wp2
  go_ret
  exact ⟨rfl, rfl⟩

theorem names_walk (x : Int) (w : World) (x0 : 0 ≤ x) (x1 : x ≤ 255) (c1 : w.cell? ⟨0, 1, none⟩ = some (.string ⟨#[73, 83]⟩)) (c2 : w.cell? ⟨0, 2, none⟩ = some (.string ⟨#[73, 88]⟩)) (c3 : w.cell? ⟨0, 3, none⟩ = some (.string ⟨#[83]⟩)) (c4 : w.cell? ⟨0, 4, none⟩ = some (.string ⟨#[83, 73, 88]⟩)) (c5 : w.cell? ⟨0, 5, none⟩ = some (.string ⟨#[85]⟩)) (c6 : w.cell? ⟨0, 6, none⟩ = some (.string ⟨#[88]⟩)) :
    Calls Ybaf.prog 3 #[.int .u8 x] w fun e w' => e = .returned (.bool true) ∧ w' = w := by
  rcases (by omega : x % 6 = 0 ∨ x % 6 = 1 ∨ x % 6 = 2 ∨ x % 6 = 3 ∨ x % 6 = 4 ∨ x % 6 = 5) with h | h | h | h | h | h
  · exact names_0 x w x0 x1 h c1
  · exact names_1 x w x0 x1 h c2
  · exact names_2 x w x0 x1 h c3
  · exact names_3 x w x0 x1 h c4
  · exact names_4 x w x0 x1 h c5
  · exact names_5 x w x0 x1 h c6

end Go.Proofs.YbulkampcFmt
