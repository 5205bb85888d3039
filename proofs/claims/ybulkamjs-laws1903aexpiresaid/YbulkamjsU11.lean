/- A function of slices.Sort at uint16: the walk that the kit has at int, turned to this program by a small program (tools/reaim.py). -/
import Derived.Test.YbulkamjsU8
import Derived.Sort.Walk11
namespace Go.Proofs.Ybulkamjs
open Go.RowKit Go.Sort Go.Proofs
set_option linter.unusedVariables false
set_option linter.unusedSimpArgs false
theorem pivot_world_intU (blk off cap : Nat) (d : Array Int) (w : World) (hH : Holds (Value.int .u16) w blk off d) (hblk : blk < w.heap.size) (hsz : d.size < 4611686018427387904) :
    ∃ Wc : Nat → Nat → World,
      w.alloc (.cells #[.int .i64 0] 3) = Wc 0 0 ∧
      (∀ N S : Nat, (Wc N S).cell? ⟨w.heap.size, 0, none⟩ = some (.int .i64 (S : Int))) ∧
      (∀ N S : Nat, ∃ os, Wc N S = grow (Sort.ahead w N) os) ∧
      (∀ x s N : Nat, 1 ≤ x → x + 1 < d.size → s + 3 < 4611686018427387904 → Calls Yba.prog 57 #[.slice (some ⟨blk, off, none⟩) d.size cap, .int .i64 (x : Int), .pointer (some ⟨w.heap.size, 0, none⟩)] (Wc N s) fun e w' =>
        e = .returned (.int .i64 ((medianAdjacent ltInt d x s).1 : Int)) ∧ ∃ N', w' = Wc N' (medianAdjacent ltInt d x s).2) ∧
      (∀ x y z s N : Nat, x < d.size → y < d.size → z < d.size → s + 3 < 4611686018427387904 → Calls Yba.prog 58 #[.slice (some ⟨blk, off, none⟩) d.size cap, .int .i64 (x : Int), .int .i64 (y : Int), .int .i64 (z : Int), .pointer (some ⟨w.heap.size, 0, none⟩)] (Wc N s) fun e w' =>
        e = .returned (.int .i64 ((median ltInt d x y z s).1 : Int)) ∧ ∃ N', w' = Wc N' (median ltInt d x y z s).2) := by
  have hne : w.heap.size ≠ blk := by omega
  have hH0 : Holds (Value.int .u16) (w.alloc (.cells #[.int .i64 0] 3)) blk off d := by rw [alloc_eq_grow]; exact holds_grow _ _ _ _ _ _ hblk hH
  have hS0 : Holds (Value.int .i64) (w.alloc (.cells #[.int .i64 0] 3)) w.heap.size 0 (one 0) := fun j hj => by
    obtain rfl : j = 0 := by simpa using hj
    simp
  refine ⟨fun N S => putRow (Value.int .i64) (Sort.ahead (w.alloc (.cells #[.int .i64 0] 3)) N) w.heap.size 0 (one S), (putRow_self _ _ _ _ _ hS0).symm, fun N S => (one_cell (holds_one (n := N) (t := S) hS0)).1, fun N S => counter_grow w N S, ?_, ?_⟩
  · intro x s N h1 h2 hs
    refine (medianAdjacent_intU d _ rfl blk off cap x w.heap.size 0 s _ (holds_asideU hH0 hne) h1 h2 (by omega) hne (holds_one hS0) (by omega)).mono ?_
    rintro e w' ⟨he, n, hw⟩
    exact ⟨he, N + n, by rw [hw, one_one]⟩
  · intro x y z s N h1 h2 h3 hs
    refine (median_intU d _ rfl blk off cap x y z w.heap.size 0 s _ (holds_asideU hH0 hne) h1 h2 h3 hne (holds_one hS0) (by omega)).mono ?_
    rintro e w' ⟨he, n, hw⟩
    exact ⟨he, N + n, by rw [hw, one_one]⟩

set_option maxRecDepth 100000 in
theorem choosePivot_intU (blk off cap a b : Nat) (d : Array Int) (w : World) (hH : Holds (Value.int .u16) w blk off d) (hblk : blk < w.heap.size) (hab : a < b) (hb : b ≤ d.size) (hsz : d.size < 4611686018427387904) :
    Calls Yba.prog 40 #[.slice (some ⟨blk, off, none⟩) d.size cap, .int .i64 a, .int .i64 b] w fun e w' =>
      e = .returned (.tuple #[.int .i64 (choosePivot ltInt d a b).1, .int .i64 (hintCode (choosePivot ltInt d a b).2)]) ∧ ∃ n os, w' = grow (Sort.ahead w n) os := by
  obtain ⟨Wc, hW0, cS, hG, MA, MD⟩ := pivot_world_intU blk off cap d w hH hblk hsz
  clear hH
  rw [choosePivot_eq]
  obtain ⟨I, hI⟩ : ∃ I : Nat, I = a + (b - a) / 4 * 1 := ⟨_, rfl⟩
  obtain ⟨J, hJ⟩ : ∃ J : Nat, J = a + (b - a) / 4 * 2 := ⟨_, rfl⟩
  obtain ⟨K, hK⟩ : ∃ K : Nat, K = a + (b - a) / 4 * 3 := ⟨_, rfl⟩
  have eI : ((a : Int) + ((b : Int) - (a : Int)) / 4) = (I : Int) := by omega
  have eJ : ((a : Int) + ((b : Int) - (a : Int)) / 4 * 2) = (J : Int) := by omega
  have eK : ((a : Int) + ((b : Int) - (a : Int)) / 4 * 3) = (K : Int) := by omega
  by_cases h8 : b - a ≥ 8
  · by_cases h50 : b - a ≥ 50
    ·
      obtain ⟨i1, s1, h1⟩ : ∃ i1 s1, medianAdjacent ltInt d I 0 = (i1, s1) := ⟨_, _, rfl⟩
      obtain ⟨j1, s2, h2⟩ : ∃ j1 s2, medianAdjacent ltInt d J s1 = (j1, s2) := ⟨_, _, rfl⟩
      obtain ⟨k1, s3, h3⟩ : ∃ k1 s3, medianAdjacent ltInt d K s2 = (k1, s3) := ⟨_, _, rfl⟩
      obtain ⟨p, s, h4⟩ : ∃ p s, median ltInt d i1 j1 k1 s3 = (p, s) := ⟨_, _, rfl⟩
      have hraw : rawPivot ltInt d a b = (p, s) := by simp only [rawPivot, if_pos h8, if_pos h50, ← hI, ← hJ, ← hK, h1, h2, h3, h4]
      have m1 := medianAdjacent_mem ltInt d I 0; rw [h1] at m1
      have m2 := medianAdjacent_mem ltInt d J s1; rw [h2] at m2
      have m3 := medianAdjacent_mem ltInt d K s2; rw [h3] at m3
      have n1 := medianAdjacent_count ltInt d I 0; rw [h1] at n1
      have n2 := medianAdjacent_count ltInt d J s1; rw [h2] at n2
      have n3 := medianAdjacent_count ltInt d K s2; rw [h3] at n3
      simp only [] at m1 m2 m3 n1 n2 n3
      have c1 : Calls Yba.prog 57 #[.slice (some ⟨blk, off, none⟩) d.size cap, .int .i64 (I : Int), .pointer (some ⟨w.heap.size, 0, none⟩)] (Wc 0 0) fun e w' => e = .returned (.int .i64 (i1 : Int)) ∧ ∃ N', w' = Wc N' s1 := by
        have h := MA I 0 0 (by omega) (by omega) (by omega); rw [h1] at h; exact h
      have c2 : ∀ N, Calls Yba.prog 57 #[.slice (some ⟨blk, off, none⟩) d.size cap, .int .i64 (J : Int), .pointer (some ⟨w.heap.size, 0, none⟩)] (Wc N s1) fun e w' => e = .returned (.int .i64 (j1 : Int)) ∧ ∃ N', w' = Wc N' s2 := fun N => by
        have h := MA J s1 N (by omega) (by omega) (by omega); rw [h2] at h; exact h
      have c3 : ∀ N, Calls Yba.prog 57 #[.slice (some ⟨blk, off, none⟩) d.size cap, .int .i64 (K : Int), .pointer (some ⟨w.heap.size, 0, none⟩)] (Wc N s2) fun e w' => e = .returned (.int .i64 (k1 : Int)) ∧ ∃ N', w' = Wc N' s3 := fun N => by
        have h := MA K s2 N (by omega) (by omega) (by omega); rw [h3] at h; exact h
      have c4 : ∀ N, Calls Yba.prog 58 #[.slice (some ⟨blk, off, none⟩) d.size cap, .int .i64 (i1 : Int), .int .i64 (j1 : Int), .int .i64 (k1 : Int), .pointer (some ⟨w.heap.size, 0, none⟩)] (Wc N s3) fun e w' => e = .returned (.int .i64 (p : Int)) ∧ ∃ N', w' = Wc N' s := fun N => by
        have h := MD i1 j1 k1 s3 N (by omega) (by omega) (by omega) (by omega); rw [h4] at h; exact h
      rw [hraw]
      obtain ⟨Hc, hHc⟩ : ∃ Hc : Int, Hc = hintCode (hintOf s) := ⟨_, rfl⟩
      have hh0 : s = 0 → Hc = 1 := fun h => by rw [hHc, h]; rfl
      have hh12 : s = 12 → Hc = 2 := fun h => by rw [hHc, h]; rfl
      have hhx : s ≠ 0 → s ≠ 12 → Hc = 0 := fun h1 h2 => by rw [hHc]; unfold hintOf; rw [if_neg h1, if_neg h2]; rfl
      show Calls Yba.prog 40 _ w fun e w' => e = .returned (.tuple #[.int .i64 (p : Int), .int .i64 (hintCode (hintOf s))]) ∧ ∃ n os, w' = grow (Sort.ahead w n) os
      rw [← hHc]
      clear hHc hraw
      clear h1 h2 h3 h4 MA MD hI hJ hK m1 m2 m3
      go_enter Yba.func40, Yba.ntmps40
      go_wp2_with (first
        | (go_at_call_has 57 (Value.int .i64 (I : Int)); refine c1.mono ?_; rintro e w' ⟨rfl, N1, rfl⟩)
        | (go_at_call_has 57 (Value.int .i64 (J : Int)); refine (c2 _).mono ?_; rintro e w' ⟨rfl, N2, rfl⟩)
        | (go_at_call_has 57 (Value.int .i64 (K : Int)); refine (c3 _).mono ?_; rintro e w' ⟨rfl, N3, rfl⟩)
        | (go_at_call 58; refine (c4 _).mono ?_; rintro e w' ⟨rfl, N4, rfl⟩))
      all_goals
        go_ret2
        refine ⟨?_, _, hG _ _⟩
        first
          | (have e0 : (s : Int) = 0 := of_beq_int (by assumption)
             rw [hh0 (by omega)]; rfl)
          | (have e1 : (s : Int) = 12 := of_beq_int (by assumption)
             rw [hh12 (by omega)]; rfl)
          | (have e0 : (s : Int) ≠ 0 := of_bne_int (by assumption)
             have e1 : (s : Int) ≠ 12 := of_bne_int (by assumption)
             rw [hhx (by omega) (by omega)]; rfl)
          | (rw [hh0 (by omega)]; rfl)
    ·
      obtain ⟨p, s, h4⟩ : ∃ p s, median ltInt d I J K 0 = (p, s) := ⟨_, _, rfl⟩
      have hraw : rawPivot ltInt d a b = (p, s) := by simp only [rawPivot, if_pos h8, if_neg h50, ← hI, ← hJ, ← hK, h4]
      have c4 : Calls Yba.prog 58 #[.slice (some ⟨blk, off, none⟩) d.size cap, .int .i64 (I : Int), .int .i64 (J : Int), .int .i64 (K : Int), .pointer (some ⟨w.heap.size, 0, none⟩)] (Wc 0 0) fun e w' => e = .returned (.int .i64 (p : Int)) ∧ ∃ N', w' = Wc N' s := by
        have h := MD I J K 0 0 (by omega) (by omega) (by omega) (by omega); rw [h4] at h; exact h
      rw [hraw]
      obtain ⟨Hc, hHc⟩ : ∃ Hc : Int, Hc = hintCode (hintOf s) := ⟨_, rfl⟩
      have hh0 : s = 0 → Hc = 1 := fun h => by rw [hHc, h]; rfl
      have hh12 : s = 12 → Hc = 2 := fun h => by rw [hHc, h]; rfl
      have hhx : s ≠ 0 → s ≠ 12 → Hc = 0 := fun h1 h2 => by rw [hHc]; unfold hintOf; rw [if_neg h1, if_neg h2]; rfl
      show Calls Yba.prog 40 _ w fun e w' => e = .returned (.tuple #[.int .i64 (p : Int), .int .i64 (hintCode (hintOf s))]) ∧ ∃ n os, w' = grow (Sort.ahead w n) os
      rw [← hHc]
      clear hHc hraw
      clear h4 MA MD hI hJ hK
      go_enter Yba.func40, Yba.ntmps40
      go_wp2_with (first | (go_at_call 58; refine c4.mono ?_; rintro e w' ⟨rfl, N4, rfl⟩))
      all_goals
        go_ret2
        refine ⟨?_, _, hG _ _⟩
        first
          | (have e0 : (s : Int) = 0 := of_beq_int (by assumption)
             rw [hh0 (by omega)]; rfl)
          | (have e1 : (s : Int) = 12 := of_beq_int (by assumption)
             rw [hh12 (by omega)]; rfl)
          | (have e0 : (s : Int) ≠ 0 := of_bne_int (by assumption)
             have e1 : (s : Int) ≠ 12 := of_bne_int (by assumption)
             rw [hhx (by omega) (by omega)]; rfl)
          | (rw [hh0 (by omega)]; rfl)
  ·
    obtain ⟨p, hp⟩ : ∃ p : Nat, p = J := ⟨_, rfl⟩
    obtain ⟨s, hs⟩ : ∃ s : Nat, s = 0 := ⟨_, rfl⟩
    have hraw : rawPivot ltInt d a b = (p, s) := by simp only [rawPivot, if_neg h8, ← hJ, hp, hs]
    rw [hraw]
    obtain ⟨Hc, hHc⟩ : ∃ Hc : Int, Hc = hintCode (hintOf s) := ⟨_, rfl⟩
    have hh0 : s = 0 → Hc = 1 := fun h => by rw [hHc, h]; rfl
    have hh12 : s = 12 → Hc = 2 := fun h => by rw [hHc, h]; rfl
    have hhx : s ≠ 0 → s ≠ 12 → Hc = 0 := fun h1 h2 => by rw [hHc]; unfold hintOf; rw [if_neg h1, if_neg h2]; rfl
    show Calls Yba.prog 40 _ w fun e w' => e = .returned (.tuple #[.int .i64 (p : Int), .int .i64 (hintCode (hintOf s))]) ∧ ∃ n os, w' = grow (Sort.ahead w n) os
    rw [← hHc]
    clear hHc hraw
    subst hp
    clear MA MD hI hJ hK
    have hW0' : w.alloc (.cells #[.int .i64 0] 3) = Wc 0 s := by rw [hs]; exact hW0
    clear hW0
    go_enter Yba.func40, Yba.ntmps40
    go_wp2
    all_goals
      go_ret2
      refine ⟨?_, _, hG _ _⟩
      first
        | (have e0 : (s : Int) = 0 := of_beq_int (by assumption)
           rw [hh0 (by omega)]; rfl)
        | (have e1 : (s : Int) = 12 := of_beq_int (by assumption)
           rw [hh12 (by omega)]; rfl)
        | (have e0 : (s : Int) ≠ 0 := of_bne_int (by assumption)
           have e1 : (s : Int) ≠ 12 := of_bne_int (by assumption)
           rw [hhx (by omega) (by omega)]; rfl)
        | (rw [hh0 (by omega)]; rfl)

end Go.Proofs.Ybulkamjs
