/- A function of slices.Sort at uint16: the walk that the kit has at int, turned to this program by a small program (tools/reaim.py). -/
import Derived.Test.YbulkamjsU0
import Derived.Sort.WalkB2
namespace Go.Proofs.Ybulkamjs
open Go.RowKit Go.Sort Go.Proofs
set_option linter.unusedVariables false
set_option linter.unusedSimpArgs false
set_option maxHeartbeats 3200000 in
set_option maxRecDepth 1000000 in
theorem siftDown_intU (blk off len cap : Nat) (d : Array Int) (hlen : d.size = len) (lo hi first : Nat) (w : World) (hH : Holds encU w blk off d) (hlo : lo ≤ hi) (hb : first + hi ≤ d.size) (hsz : d.size < 4611686018427387904) :
    Calls Yba.prog 54 #[.slice (some ⟨blk, off, none⟩) len cap, .int .i64 lo, .int .i64 hi, .int .i64 first] w fun e w' => e = .returned (.tuple #[]) ∧ ∃ n, w' = putRow encU (Sort.ahead w n) blk off (siftDown ltInt hi first lo d) := by
  subst hlen
  go_enter Yba.func54, Yba.ntmps54
  go_wp2
  go_loopg [8] (hi - lo) (fun k s8 wr => ∃ (root : Nat) (dk : Array Int) (n : Nat), s8 = .int .i64 root ∧ root ≤ hi ∧ hi - root ≤ k ∧ dk.size = d.size ∧ wr = putRow encU (Sort.ahead w n) blk off dk ∧ siftDown ltInt hi first root dk = siftDown ltInt hi first lo d)
  case atStart => exact ⟨lo, d, 0, rfl, hlo, Nat.le_refl _, rfl, (putRow_self encU w blk off d hH).symm, rfl⟩
  case round =>
    obtain ⟨root, dk, n, rfl, hr, hk, hds, hwr, heq⟩ := hrel
    have hHk : Holds encU wr blk off dk := by rw [hwr]; exact holds_putRow encU _ blk off d dk (holds_ahead encU w n blk off d hH) hds
    have hcw : ∀ t, t < d.size → wr.cell? ⟨blk, off + t, none⟩ = some (.int .u16 dk[t]!) := fun t ht => (hHk t (by omega)).1
    have hfw : ∀ t, t < d.size → wr.frozen? ⟨blk, off + t, none⟩ = false := fun t ht => (hHk t (by omega)).2
    have A : Aside (wr = putRow encU (Sort.ahead w n) blk off dk) := hwr
    clear hwr hH hHk
    by_cases h0 : hi ≤ 2 * root + 1
    ·
      have h0z : (hi : Int) ≤ 2 * (root : Int) + 1 := by omega
      go_wp2
      go_end0
      refine ⟨rfl, n, ?_⟩
      rw [A.out, ← heq, sd_end ltInt dk h0]
    ·
      have h0z : ¬ ((hi : Int) ≤ 2 * (root : Int) + 1) := by omega
      by_cases h1 : 2 * root + 2 < hi
      · have h1z : 2 * (root : Int) + 1 + 1 < (hi : Int) := by omega
        go_wp2_with fail
        go_big_quiet (first | (go_at_call 43; refine Calls.quiet_of_same (cmp_Less_intU _ _ _)))
        go_wp2_with fail
        ·
          have hL : ltInt dk[first + 2 * root + 1]! dk[first + 2 * root + 2]! = true := by assumption
          revert nq; intro nq1     
          have hcw2 : ∀ t, t < d.size → (wr.drewN nq1).cell? ⟨blk, off + t, none⟩ = some (.int .u16 dk[t]!) := hcw
          have hfw2 : ∀ t, t < d.size → (wr.drewN nq1).frozen? ⟨blk, off + t, none⟩ = false := hfw
          have A2 : Aside (wr.drewN nq1 = putRow encU (Sort.ahead w (n + nq1)) blk off dk) := drewN_world encU A.out nq1
          clear hcw hfw A
          generalize wr.drewN nq1 = wr2 at hcw2 hfw2 A2 ⊢
          go_big_quiet (first | (go_at_call 43; refine Calls.quiet_of_same (cmp_Less_intU _ _ _)))
          go_wp2_with fail
          ·
            have hS : ltInt dk[first + root]! dk[first + 2 * root + 2]! = false := by
              have : (!ltInt dk[first + root]! dk[first + 2 * root + 2]!) = true := by assumption
              simpa using this
            (try simp only [Exit.inBlock, Exit.then]); refine bodyPost_ret (results_none rfl _ _ _) rfl ?_     
            refine ⟨rfl, n + nq1 + nq, ?_⟩
            rw [drewN_world encU A2.out nq, ← heq, sd_right_stop ltInt dk h1 hL hS]
          ·
            have hG : ltInt dk[first + root]! dk[first + 2 * root + 2]! = true := by
              have : (!ltInt dk[first + root]! dk[first + 2 * root + 2]!) = false := by assumption
              simpa using this
            have hcw3 : ∀ t, t < d.size → (wr2.drewN nq).cell? ⟨blk, off + t, none⟩ = some (.int .u16 dk[t]!) := hcw2
            have hfw3 : ∀ t, t < d.size → (wr2.drewN nq).frozen? ⟨blk, off + t, none⟩ = false := hfw2
            have A3 : Aside (wr2.drewN nq = putRow encU (Sort.ahead w (n + nq1 + nq)) blk off dk) := drewN_world encU A2.out nq
            clear hcw2 hfw2 A2
            generalize wr2.drewN nq = wr3 at hcw3 hfw3 A3 ⊢
            go_region
            go_wp2
            go_roundg (hi - (2 * root + 2))
            case measure => omega
            case rel =>
              refine ⟨2 * root + 2, swp dk (first + root) (first + (2 * root + 1 + 1)), n + nq1 + nq + 1, by simp <;> omega, by omega, Nat.le_refl _, by rw [size_swp]; exact hds, swap_world encU (by omega) (by omega) A3.out rfl rfl, ?_⟩
              rw [← heq, sd_right_go ltInt dk h1 hL hG]
        ·
          have hL : ltInt dk[first + 2 * root + 1]! dk[first + 2 * root + 2]! = false := by assumption
          revert nq; intro nq1     
          have hcw2 : ∀ t, t < d.size → (wr.drewN nq1).cell? ⟨blk, off + t, none⟩ = some (.int .u16 dk[t]!) := hcw
          have hfw2 : ∀ t, t < d.size → (wr.drewN nq1).frozen? ⟨blk, off + t, none⟩ = false := hfw
          have A2 : Aside (wr.drewN nq1 = putRow encU (Sort.ahead w (n + nq1)) blk off dk) := drewN_world encU A.out nq1
          clear hcw hfw A
          generalize wr.drewN nq1 = wr2 at hcw2 hfw2 A2 ⊢
          go_big_quiet (first | (go_at_call 43; refine Calls.quiet_of_same (cmp_Less_intU _ _ _)))
          go_wp2_with fail
          ·
            have hS : ltInt dk[first + root]! dk[first + 2 * root + 1]! = false := by
              have : (!ltInt dk[first + root]! dk[first + 2 * root + 1]!) = true := by assumption
              simpa using this
            (try simp only [Exit.inBlock, Exit.then]); refine bodyPost_ret (results_none rfl _ _ _) rfl ?_     
            refine ⟨rfl, n + nq1 + nq, ?_⟩
            rw [drewN_world encU A2.out nq, ← heq, sd_left_stop ltInt dk (by omega) (fun _ => hL) hS]
          ·
            have hG : ltInt dk[first + root]! dk[first + 2 * root + 1]! = true := by
              have : (!ltInt dk[first + root]! dk[first + 2 * root + 1]!) = false := by assumption
              simpa using this
            have hcw3 : ∀ t, t < d.size → (wr2.drewN nq).cell? ⟨blk, off + t, none⟩ = some (.int .u16 dk[t]!) := hcw2
            have hfw3 : ∀ t, t < d.size → (wr2.drewN nq).frozen? ⟨blk, off + t, none⟩ = false := hfw2
            have A3 : Aside (wr2.drewN nq = putRow encU (Sort.ahead w (n + nq1 + nq)) blk off dk) := drewN_world encU A2.out nq
            clear hcw2 hfw2 A2
            generalize wr2.drewN nq = wr3 at hcw3 hfw3 A3 ⊢
            go_region
            go_wp2
            go_roundg (hi - (2 * root + 1))
            case measure => omega
            case rel =>
              refine ⟨2 * root + 1, swp dk (first + root) (first + (2 * root + 1)), n + nq1 + nq + 1, by simp <;> omega, by omega, Nat.le_refl _, by rw [size_swp]; exact hds, swap_world encU (by omega) (by omega) A3.out rfl rfl, ?_⟩
              rw [← heq, sd_left_go ltInt dk (by omega) (fun _ => hL) hG]
      ·
        have h1z : decide (2 * (root : Int) + 1 + 1 < (hi : Int)) = false := decide_eq_false (by omega)     
        go_wp2_with fail
        go_big_quiet (first | (go_at_call 43; refine Calls.quiet_of_same (cmp_Less_intU _ _ _)))
        go_wp2_with fail
        revert nq; intro nq1     
        have hcw2 : ∀ t, t < d.size → (wr.drewN nq1).cell? ⟨blk, off + t, none⟩ = some (.int .u16 dk[t]!) := hcw
        have hfw2 : ∀ t, t < d.size → (wr.drewN nq1).frozen? ⟨blk, off + t, none⟩ = false := hfw
        have A2 : Aside (wr.drewN nq1 = putRow encU (Sort.ahead w (n + nq1)) blk off dk) := drewN_world encU A.out nq1
        clear hcw hfw A
        generalize wr.drewN nq1 = wr2 at hcw2 hfw2 A2 ⊢
        go_big_quiet (first | (go_at_call 43; refine Calls.quiet_of_same (cmp_Less_intU _ _ _)))
        go_wp2_with fail
        ·
          have hS : ltInt dk[first + root]! dk[first + 2 * root + 1]! = false := by
            have : (!ltInt dk[first + root]! dk[first + 2 * root + 1]!) = true := by assumption
            simpa using this
          (try simp only [Exit.inBlock, Exit.then]); refine bodyPost_ret (results_none rfl _ _ _) rfl ?_     
          refine ⟨rfl, n + nq1 + nq, ?_⟩
          rw [drewN_world encU A2.out nq, ← heq, sd_left_stop ltInt dk (by omega) (fun h => absurd h h1) hS]
        ·
          have hG : ltInt dk[first + root]! dk[first + 2 * root + 1]! = true := by
            have : (!ltInt dk[first + root]! dk[first + 2 * root + 1]!) = false := by assumption
            simpa using this
          have hcw3 : ∀ t, t < d.size → (wr2.drewN nq).cell? ⟨blk, off + t, none⟩ = some (.int .u16 dk[t]!) := hcw2
          have hfw3 : ∀ t, t < d.size → (wr2.drewN nq).frozen? ⟨blk, off + t, none⟩ = false := hfw2
          have A3 : Aside (wr2.drewN nq = putRow encU (Sort.ahead w (n + nq1 + nq)) blk off dk) := drewN_world encU A2.out nq
          clear hcw2 hfw2 A2
          generalize wr2.drewN nq = wr3 at hcw3 hfw3 A3 ⊢
          go_region
          go_wp2
          go_roundg (hi - (2 * root + 1))
          case measure => omega
          case rel =>
            refine ⟨2 * root + 1, swp dk (first + root) (first + (2 * root + 1)), n + nq1 + nq + 1, by simp <;> omega, by omega, Nat.le_refl _, by rw [size_swp]; exact hds, swap_world encU (by omega) (by omega) A3.out rfl rfl, ?_⟩
            rw [← heq, sd_left_go ltInt dk (by omega) (fun h => absurd h h1) hG]

end Go.Proofs.Ybulkamjs
