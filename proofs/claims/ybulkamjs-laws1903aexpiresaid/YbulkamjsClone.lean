/- slices.Clone at uint16. -/
import Derived.Test.YbulkamjsProg
import Derived.Shelf.RegionOpenPlain
import Derived.WalkKit
import Derived.Lib.Walk
import Derived.Lib.SliceRun
import Derived.Laws.AppendOwn
import Derived.KernelRfl
namespace Go.Proofs.Ybulkamjs
open Go.RowKit Go.Shelf Go.Lib
set_option linter.unusedVariables false
set_option linter.unusedSimpArgs false

theorem info24 : ∃ ti, Yba.prog.info? 24 = some ti ∧ ti.zero = some (.int .u16 0) ∧ ti.size = 1 ∧ ti.bytes = 2 := by
  have h1 : (Yba.prog.info? 24).map (fun t => (t.size, t.bytes)) = some (1, 2) := by kernel_rfl
  have h2 : (Yba.prog.info? 24).bind (fun t => t.zero) = some (.int .u16 0) := by kernel_rfl
  cases h : Yba.prog.info? 24 with
  | none => rw [h] at h1; cases h1
  | some ti =>
    rw [h] at h1 h2
    simp only [Option.map_some, Option.some.injEq, Prod.mk.injEq, Option.bind_some] at h1 h2
    exact ⟨ti, rfl, h2, h1.1, h1.2⟩
theorem q22 : ∀ (w : World) (a : Option Addr) (n c n' c' : Nat), (binOp .eql 22 (.slice a n c) (.slice none n' c')).run Yba.prog w = .ok (.bool a.isNone) w := fun w a n c n' c' => Lib.run_eql_slice_nil w _ _ a n c n' c' Yba.underlying22

theorem clone_nil (cap : Nat) (w : World) : Calls Yba.prog 7 #[.slice none 0 cap] w fun e w' => e = .returned (.slice none 0 0) ∧ w' = w := by
  have q := q22
  go_enter Yba.func7, Yba.ntmps7
  go_wp2
  go_ret
  exact ⟨rfl, rfl⟩

set_option maxHeartbeats 2000000 in
set_option maxRecDepth 100000 in
theorem clone_some (x : Addr) (cap : Nat) (zs : List Int) (w : World) (hl : zs.length ≤ 1024) (hc : ∀ i z, zs[i]? = some z → w.cell? (x.add i) = some (.int .u16 z)) :
    Calls Yba.prog 7 #[.slice (some x) zs.length cap] w fun e w' => ∃ v', e = .returned v' ∧ w'.ownsRow w.heap.size 24 1 v' zs.length (zs.map (Value.int .u16)) ∧ Below w.heap.size w w' := by
  obtain ⟨ti, ti1, ti2, ti3, ti4⟩ := info24
  have q := q22
  have A : Hid (∀ i z, zs[i]? = some z → w.cell? (x.add i) = some (.int .u16 z)) := hc
  clear hc
  go_enter Yba.func7, Yba.ntmps7
  go_wp2_with (at_builtin; refine wpList_append_own _ rfl _ _ 22 rfl w.heap.size 24 ti (.int .u16 0) 1 2 Yba.underlying22 ti1 ti2 ti3 ti4 rfl (by omega) _ _ _ rfl (World.ownsRow_made w #[] 0 (Nat.le_refl _) (Nat.zero_le _) (by simp)) x zs.length cap (zs.map (Value.int .u16)) rfl ?qc1 ?qc2 ?qc3 ?qc4 ?qc5 ?qc6 ?_)
  case qc1 => simp
  case qc2 =>
    intro j u hj
    rw [List.getElem?_map] at hj
    cases hz : zs[j]? with
    | none => rw [hz] at hj; cases hj
    | some z =>
      rw [hz] at hj
      simp only [Option.map_some, Option.some.injEq] at hj
      rw [← hj]
      exact Lib.cell?_alloc_some _ (A.out j z hz)
  case qc3 =>
    intro u hu
    obtain ⟨z, _, rfl⟩ := List.mem_map.1 hu
    rfl
  case qc4 => unfold maxLen; omega
  case qc5 => omega
  case qc6 => simp
  intro v' w1 hown hgrow hnil
  go_wp2
  go_ret
  refine ⟨v', rfl, by simpa using hown, ?_⟩
  exact ((Below.refl _ w).alloc (Nat.le_refl _) _).grown hgrow (by simp) (by intro k hk; simp [Value.ownBlock] at hk; omega)
end Go.Proofs.Ybulkamjs
