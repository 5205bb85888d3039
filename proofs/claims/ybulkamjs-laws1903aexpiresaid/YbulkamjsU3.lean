/- A function of slices.Sort at uint16: the walk that the kit has at int, turned to this program by a small program (tools/reaim.py). -/
import Derived.Test.YbulkamjsU2
import Derived.Sort.WalkB3
namespace Go.Proofs.Ybulkamjs
open Go.RowKit Go.Sort Go.Proofs
set_option linter.unusedVariables false
set_option linter.unusedSimpArgs false
set_option maxHeartbeats 3200000 in
set_option maxRecDepth 1000000 in
theorem heapSort_intU (blk off len cap : Nat) (d : Array Int) (hlen : d.size = len) (a b : Nat) (w : World) (hH : Holds encU w blk off d) (hab : a ≤ b) (hb : b ≤ d.size) (hsz : d.size < 4611686018427387904) :
    Calls Yba.prog 38 #[.slice (some ⟨blk, off, none⟩) len cap, .int .i64 a, .int .i64 b] w fun e w' => e = .returned (.tuple #[]) ∧ ∃ n, w' = putRow encU (Sort.ahead w n) blk off (heapSort ltInt d a b) := by
  subst hlen
  have ecast : ((b - a : Nat) : Int) = (b : Int) - (a : Int) := by omega
  go_enter Yba.func38, Yba.ntmps38
  go_wp2
  go_loopg [9] ((b - a - 1) / 2 + 1) (fun k s9 wr => s9 = .int .i64 ((k : Int) - 1) ∧ k ≤ (b - a - 1) / 2 + 1 ∧ ∃ (dk : Array Int) (n : Nat), dk.size = d.size ∧ wr = putRow encU (Sort.ahead w n) blk off dk ∧
    heapBuild ltInt (b - a) a k dk = heapBuild ltInt (b - a) a ((b - a - 1) / 2 + 1) d)
  case atStart => exact ⟨by rw [half_start hab], Nat.le_refl _, d, 0, rfl, (putRow_self encU w blk off d hH).symm, rfl⟩
  case round =>
    obtain ⟨rfl, hkk, dk, n, hds, hwr, heq⟩ := hrel
    have hHk : Holds encU wr blk off dk := by rw [hwr]; exact holds_putRow encU _ blk off d dk (holds_ahead encU w n blk off d hH) hds
    have A : Aside (wr = putRow encU (Sort.ahead w n) blk off dk) := hwr
    clear hwr
    cases gk with
    | zero =>
      have hB : dk = heapBuild ltInt (b - a) a ((b - a - 1) / 2 + 1) d := heq
      clear heq hHk hkk
      go_wp2
      go_loopg [10] (b - a) (fun k s10 wr2 => s10 = .int .i64 ((k : Int) - 1) ∧ k ≤ b - a ∧ ∃ (dj : Array Int) (n2 : Nat), dj.size = d.size ∧ wr2 = putRow encU (Sort.ahead w n2) blk off dj ∧ heapPop ltInt a k dj = heapPop ltInt a (b - a) dk)
      case atStart => exact ⟨by rw [ecast], Nat.le_refl _, dk, n, hds, A.out, rfl⟩
      case round =>
        obtain ⟨rfl, hkk, dj, n2, hdj, hwr2, heq2⟩ := hrel
        cases gk with
        | zero =>
          go_wp2
          go_end0
          refine ⟨rfl, n2, ?_⟩
          have e : dj = heapSort ltInt d a b := by rw [heapSort, ← hB, ← heq2]; rfl
          rw [← e]
        | succ k =>
          have hHj : Holds encU wr blk off dj := by rw [hwr2]; exact holds_putRow encU _ blk off d dj (holds_ahead encU w n2 blk off d hH) hdj
          have hcw : ∀ t, t < d.size → wr.cell? ⟨blk, off + t, none⟩ = some (.int .u16 dj[t]!) := fun t ht => (hHj t (by omega)).1
          have hfw : ∀ t, t < d.size → wr.frozen? ⟨blk, off + t, none⟩ = false := fun t ht => (hHj t (by omega)).2
          have A2 : Aside (wr = putRow encU (Sort.ahead w n2) blk off dj) := hwr2
          clear hwr2 hHj
          rcases Nat.eq_zero_or_pos k with hk0 | hkp
          · subst hk0
            go_wp2_with fail
            go_region
            go_wp2_with fail
            rw [swap_world encU (i := a) (j := a) (by omega) (by omega) A2.out rfl rfl]
            refine (siftDown_intU blk off d.size cap (swp dj a (a)) (by rw [size_swp]; exact hdj) 0 0 a _ (holds_putRow encU _ blk off d _ (holds_ahead encU w (n2 + 1) blk off d hH) (by rw [size_swp]; exact hdj)) (Nat.zero_le _) (by rw [size_swp]; omega) (by rw [size_swp]; omega)).mono ?_
            rintro e w1 ⟨rfl, m, hw1⟩
            go_wp2
            go_roundg 0
            case measure => omega
            case rel =>
              refine ⟨by simp, by omega, siftDown ltInt 0 a 0 (swp dj a (a)), n2 + 1 + m, by rw [size_siftDown ltInt _ _ _ _ _ (Nat.le_refl _), size_swp]; exact hdj, ?_, heq2⟩
              first
                | rw [hw1, putRow_ahead_putRow encU w (n2 + 1) m blk off _ _ (size_siftDown ltInt _ _ _ _ _ (Nat.le_refl _))]
                | rw [putRow_ahead_putRow encU w (n2 + 1) m blk off _ _ (size_siftDown ltInt _ _ _ _ _ (Nat.le_refl _))]
          · skip
            go_wp2_with fail
            go_region
            go_wp2_with fail
            rw [swap_world encU (i := a) (j := a + k) (by omega) (by omega) A2.out rfl rfl]
            refine (siftDown_intU blk off d.size cap (swp dj a (a + k)) (by rw [size_swp]; exact hdj) 0 k a _ (holds_putRow encU _ blk off d _ (holds_ahead encU w (n2 + 1) blk off d hH) (by rw [size_swp]; exact hdj)) (Nat.zero_le _) (by rw [size_swp]; omega) (by rw [size_swp]; omega)).mono ?_
            rintro e w1 ⟨rfl, m, hw1⟩
            go_wp2
            go_roundg k
            case measure => omega
            case rel =>
              refine ⟨by simp, by omega, siftDown ltInt k a 0 (swp dj a (a + k)), n2 + 1 + m, by rw [size_siftDown ltInt _ _ _ _ _ (Nat.le_refl _), size_swp]; exact hdj, ?_, heq2⟩
              first
                | rw [hw1, putRow_ahead_putRow encU w (n2 + 1) m blk off _ _ (size_siftDown ltInt _ _ _ _ _ (Nat.le_refl _))]
                | rw [putRow_ahead_putRow encU w (n2 + 1) m blk off _ _ (size_siftDown ltInt _ _ _ _ _ (Nat.le_refl _))]
    | succ k =>
      have hcall := siftDown_intU blk off d.size cap dk hds k (b - a) a wr hHk (by omega) (by omega) (by omega)
      rw [ecast] at hcall
      go_wp2_with (go_at_call 54; refine hcall.mono ?_; rintro e w1 ⟨rfl, m, hw1⟩)
      go_roundg k
      case measure => omega
      case rel =>
        refine ⟨by simp, by omega, siftDown ltInt (b - a) a k dk, n + m, by rw [size_siftDown ltInt _ _ _ _ _ (Nat.le_refl _)]; exact hds, ?_, heq⟩
        rw [A.out, putRow_ahead_putRow encU w n m blk off dk _ (size_siftDown ltInt _ _ _ _ _ (Nat.le_refl _))]

end Go.Proofs.Ybulkamjs
