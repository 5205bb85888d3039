/- A function of slices.Sort at uint16: the walk that the kit has at int, turned to this program by a small program (tools/reaim.py). -/
import Derived.Test.YbulkamjsU0
import Derived.Sort.WalkB12
namespace Go.Proofs.Ybulkamjs
open Go.RowKit Go.Sort Go.Proofs
set_option linter.unusedVariables false
set_option linter.unusedSimpArgs false
set_option maxHeartbeats 1600000 in
set_option maxRecDepth 1000000 in
theorem reverseRange_intU (blk off cap : Nat) (d : Array Int) (a b : Nat) (w : World) (hH : Holds encU w blk off d) (hab : a ≤ b) (hb : b ≤ d.size) (hsz : d.size < 4611686018427387904) :
    Calls Yba.prog 41 #[.slice (some ⟨blk, off, none⟩) d.size cap, .int .i64 a, .int .i64 b] w fun e w' => e = .returned (.tuple #[]) ∧ ∃ n, w' = putRow encU (Sort.ahead w n) blk off (reverseRange d a b) := by
  go_enter Yba.func41, Yba.ntmps41
  go_wp2
  go_loopg [6, 7] (b - a) (fun k s6 s7 wr => ∃ (i jn : Nat) (jz : Int) (dk : Array Int) (n : Nat), s6 = .int .i64 i ∧ s7 = .int .i64 jz ∧ ((i : Int) < jz → jz = jn ∧ jn < d.size) ∧ (¬ (i : Int) < jz → ¬ i < jn) ∧ jn - i ≤ k ∧
    dk.size = d.size ∧ wr = putRow encU (Sort.ahead w n) blk off dk ∧ reverseLoop i jn dk = reverseLoop a (b - 1) d)
  case atStart => exact ⟨a, b - 1, (b : Int) - 1, d, 0, rfl, rfl, fun h => ⟨by omega, by omega⟩, fun h => by omega, by omega, rfl, (putRow_self encU w blk off d hH).symm, rfl⟩
  case round =>
    obtain ⟨i, jn, jz, dk, n, rfl, rfl, h1, h2, hk, hds, hwr, heq⟩ := hrel
    by_cases hlt : (i : Int) < jz
    · obtain ⟨rfl, hjn⟩ := h1 hlt
      have hij : i < jn := by omega
      have hHk : Holds encU wr blk off dk := by rw [hwr]; exact holds_putRow encU _ blk off d dk (holds_ahead encU w n blk off d hH) hds
      obtain ⟨ci, fi⟩ := hHk i (by omega)
      obtain ⟨cj, fj⟩ := hHk jn (by omega)
      have A : Aside (wr = putRow encU (Sort.ahead w n) blk off dk) := hwr
      clear hwr hHk hH h1 h2
      go_wp2_with fail
      go_region
      go_wp2
      go_roundg (jn - 1 - (i + 1))
      case measure => omega
      case rel =>
        rw [reverseLoop, if_pos hij] at heq
        exact ⟨i + 1, jn - 1, (jn : Int) - 1, swp dk i jn, n + 1, by simp, rfl, fun h => ⟨by omega, by omega⟩, fun h => by omega, Nat.le_refl _, by rw [size_swp]; exact hds,
          swap_world encU (by omega) (by omega) A.out (by simp [encU, getElem!_pos, show jn < dk.size by omega]) rfl, heq⟩
    · have hnot := h2 hlt
      go_wp2
      go_end0
      refine ⟨rfl, n, ?_⟩
      rw [reverseLoop, if_neg hnot] at heq
      rw [reverseRange, ← heq]

end Go.Proofs.Ybulkamjs
