import Derived.Test.YbulkammyDoorSend
namespace Go.Proofs.YbulkammyDoor
open Go.RowKit
set_option linter.unusedVariables false
set_option linter.unusedSimpArgs false

/-- the law's own rule: sameAddr c, the selectors -/
def mdB (c : Bool) (a ap b bp : Int) : Bool := if a % 3 = b % 3 then (if c then ap % 4 == bp % 4 else true) else false

set_option maxHeartbeats 1000000 in
theorem md_any (cb : Nat) (c : Bool) (a ap b bp : Int) (w : World) (a0 : 0 ≤ a) (a1 : a ≤ 255) (ap0 : 0 ≤ ap) (ap1 : ap ≤ 255) (b0 : 0 ≤ b) (b1 : b ≤ 255) (bp0 : 0 ≤ bp) (bp1 : bp ≤ 255)
    (hc : w.cell? ⟨cb, 0, none⟩ = some (.bool c)) :
    Calls Ybad.prog 8 #[.int .u8 a, .int .u8 ap, .int .u8 b, .int .u8 bp, .pointer (some ⟨cb, 0, none⟩)] w fun e w' => e = .returned (.bool (mdB c a ap b bp)) ∧ w' = w := by
  by_cases h : a % 3 = b % 3
  · have hn : (a % 3 != b % 3) = false := by simp [h]
    cases c with
    | true =>
      have HR : Hid (mdB true a ap b bp = (ap % 4 == bp % 4)) := by show _ = _; simp [mdB, h]
      clear h
      go_enter Ybad.func8, Ybad.ntmps8
      go_wp2
      go_ret
      exact ⟨by rw [HR.out]; rfl, rfl⟩
    | false =>
      have HR : Hid (mdB false a ap b bp = true) := by show _ = _; simp [mdB, h]
      clear h
      go_enter Ybad.func8, Ybad.ntmps8
      go_wp2
      go_ret
      exact ⟨by rw [HR.out]; rfl, rfl⟩
  · have hn : (a % 3 != b % 3) = true := by simp [h]
    have HR : Hid (mdB c a ap b bp = false) := by show _ = _; simp [mdB, h]
    clear h
    go_enter Ybad.func8, Ybad.ntmps8
    go_wp2
    go_ret
    exact ⟨by rw [HR.out]; rfl, rfl⟩

end Go.Proofs.YbulkammyDoor
