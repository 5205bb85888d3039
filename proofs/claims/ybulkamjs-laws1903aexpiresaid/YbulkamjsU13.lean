/- A function of slices.Sort at uint16: the walk that the kit has at int, turned to this program by a small program (tools/reaim.py). -/
import Derived.Test.YbulkamjsU0
import Derived.Test.YbulkamjsU3
import Derived.Test.YbulkamjsU12
import Derived.Sort.Walk13
namespace Go.Proofs.Ybulkamjs
open Go.RowKit Go.Sort Go.Proofs
set_option linter.unusedVariables false
set_option linter.unusedSimpArgs false
structure Callees13U : Prop where
  ins : ∀ (blk off cap a b : Nat) (d : Array Int) (w : World), Holds encU w blk off d → a ≤ b → b ≤ d.size → d.size < 4611686018427387904 →
    Calls Yba.prog 37 #[.slice (some ⟨blk, off, none⟩) d.size cap, .int .i64 a, .int .i64 b] w fun e w' => e = .returned (.tuple #[]) ∧ ∃ n, w' = putRow encU (Sort.ahead w n) blk off (insertionSort ltInt d a b)
  brk : ∀ (blk off cap a b : Nat) (d : Array Int) (w : World), Holds encU w blk off d → blk < w.heap.size → a ≤ b → b ≤ d.size → d.size < 4611686018427387904 →
    Calls Yba.prog 39 #[.slice (some ⟨blk, off, none⟩) d.size cap, .int .i64 a, .int .i64 b] w fun e w' => e = .returned (.tuple #[]) ∧ ∃ n os, w' = grow (putRow encU (Sort.ahead w n) blk off (breakPatterns d a b)) os
  piv : ∀ (blk off cap a b : Nat) (d : Array Int) (w : World), Holds encU w blk off d → blk < w.heap.size → a < b → b ≤ d.size → d.size < 4611686018427387904 →
    Calls Yba.prog 40 #[.slice (some ⟨blk, off, none⟩) d.size cap, .int .i64 a, .int .i64 b] w fun e w' => e = .returned (.tuple #[.int .i64 (choosePivot ltInt d a b).1, .int .i64 (hintCode (choosePivot ltInt d a b).2)]) ∧ ∃ n os, w' = grow (Sort.ahead w n) os
  par : ∀ (blk off cap a b : Nat) (d : Array Int) (w : World), Holds encU w blk off d → a < b → b ≤ d.size → d.size < 4611686018427387904 →
    Calls Yba.prog 42 #[.slice (some ⟨blk, off, none⟩) d.size cap, .int .i64 a, .int .i64 b] w fun e w' => e = .returned (.bool (partialInsertionSort ltInt d a b).2) ∧ ∃ n, w' = putRow encU (Sort.ahead w n) blk off (partialInsertionSort ltInt d a b).1
  peq : ∀ (blk off cap a b pivot : Nat) (d : Array Int) (w : World), Holds encU w blk off d → a ≤ pivot → pivot < b → b ≤ d.size → d.size < 4611686018427387904 →
    Calls Yba.prog 44 #[.slice (some ⟨blk, off, none⟩) d.size cap, .int .i64 a, .int .i64 b, .int .i64 pivot] w fun e w' => e = .returned (.int .i64 (partitionEqual ltInt d a b pivot).1) ∧ ∃ n, w' = putRow encU (Sort.ahead w n) blk off (partitionEqual ltInt d a b pivot).2
  prt : ∀ (blk off cap a b pivot : Nat) (d : Array Int) (w : World), Holds encU w blk off d → a ≤ pivot → pivot < b → b ≤ d.size → d.size < 4611686018427387904 →
    Calls Yba.prog 45 #[.slice (some ⟨blk, off, none⟩) d.size cap, .int .i64 a, .int .i64 b, .int .i64 pivot] w fun e w' => e = .returned (.tuple #[.int .i64 (partition ltInt d a b pivot).1, .bool (partition ltInt d a b pivot).2.1]) ∧ ∃ n, w' = putRow encU (Sort.ahead w n) blk off (partition ltInt d a b pivot).2.2

set_option maxHeartbeats 6400000 in
set_option maxRecDepth 1000000 in
theorem pdqsort_intU (C : Callees13U) (S : Plain13) : ∀ (N blk off cap a b limit : Nat) (d : Array Int) (w : World), b - a < N → Holds encU w blk off d → blk < w.heap.size → a ≤ b → b ≤ d.size → d.size < 4611686018427387904 → limit < 4611686018427387904 → Below ltInt a b d →
    Calls Yba.prog 25 #[.slice (some ⟨blk, off, none⟩) d.size cap, .int .i64 a, .int .i64 b, .int .i64 limit] w fun e w' => e = .returned (.tuple #[]) ∧ At encU w blk off (pdq ltInt d a b limit true true) w' := by
  intro N
  induction N with
  | zero => intro _ _ _ _ _ _ _ _ h; exact absurd h (Nat.not_lt_zero _)
  | succ N ih =>
    intro blk off cap a b limit d w hN hH hblk hab hb hsz hlimit hBel0
    go_enter Yba.func25, Yba.ntmps25
    go_wp2
    go_loopg [1, 2, 3, 8, 9] (b - a) (fun k s1 s2 s3 s8 s9 wr => ∃ (a' b' lim : Nat) (wb wp : Bool) (dk : Array Int), s1 = .int .i64 a' ∧ s2 = .int .i64 b' ∧ s3 = .int .i64 lim ∧ s8 = .bool wb ∧ s9 = .bool wp ∧
      a' ≤ b' ∧ b' ≤ d.size ∧ b' - a' ≤ k ∧ k ≤ b - a ∧ lim ≤ limit ∧ dk.size = d.size ∧ Below ltInt a' b' dk ∧ At encU w blk off dk wr ∧ pdq ltInt dk a' b' lim wb wp = pdq ltInt d a b limit true true)
    case atStart => exact ⟨a, b, limit, true, true, d, rfl, rfl, rfl, rfl, rfl, hab, hb, Nat.le_refl _, Nat.le_refl _, Nat.le_refl _, rfl, hBel0, At.refl hH, rfl⟩
    case round =>
      obtain ⟨a', b', lim, wb, wp, dk, rfl, rfl, rfl, rfl, rfl, hab', hb', hk, hkN, hlim, hds, hBel, hAt, heq⟩ := hrel
      obtain ⟨hHk, hblk'⟩ := hAt.holds hH hds hblk
      have A : Aside (pdq ltInt dk a' b' lim wb wp = pdq ltInt d a b limit true true) := heq
      clear heq
      by_cases h12 : b' - a' ≤ 12
      ·
        have h12z : (b' : Int) - (a' : Int) ≤ 12 := by omega
        have hc := C.ins blk off cap a' b' dk wr hHk hab' (by omega) (by omega)
        rw [hds] at hc
        go_wp2_with (go_at_call 37; refine hc.mono ?_; rintro e w1 ⟨rfl, hw1⟩)
        (try simp only [Exit.inBlock, Exit.then]); refine bodyPost_ret (results_none rfl _ _ _) rfl ?_
        refine ⟨rfl, ?_⟩
        rw [← A.out, pdq_small h12]
        exact hAt.step hblk (S.ins S.swo dk a' b' hab' (by omega)).1.1 hw1
      · have h12z : ¬ ((b' : Int) - (a' : Int) ≤ 12) := by omega
        by_cases hl0 : lim = 0
        ·
          subst hl0
          have hc := heapSort_intU blk off d.size cap dk hds a' b' wr hHk hab' (by omega) (by omega)
          go_wp2_with (go_at_call 38; refine hc.mono ?_; rintro e w1 ⟨rfl, hw1⟩)
          (try simp only [Exit.inBlock, Exit.then]); refine bodyPost_ret (results_none rfl _ _ _) rfl ?_
          refine ⟨rfl, ?_⟩
          rw [← A.out, pdq_heap h12 rfl]
          exact hAt.step hblk (heapSort_holds S.swo dk a' b' hab' (by omega)).1.1 hw1
        · have hl0z : ¬ ((lim : Int) = 0) := by omega
          obtain ⟨s1, B1, hc1, s2, B2, hpv, s3, B3⟩ := rd_facts (limit := lim) (wb := wb) (wp := wp) S.swo S.par reverseRange_holds (show a' < b' by omega) (show b' ≤ dk.size by omega) hBel
          go_upto_if 35 with fail
          go_cut [3] from 19 (fun s3 wc => s3 = .int .i64 (rd ltInt dk a' b' lim wb wp).lim ∧ At encU w blk off (rd ltInt dk a' b' lim wb wp).d1 wc)
          case first =>
            cases wb
            · have hc := C.brk blk off cap a' b' dk wr hHk hblk' hab' (by omega) (by omega)
              rw [hds] at hc
              go_wp2_with (go_at_call 39; refine hc.mono ?_; rintro e w1 ⟨rfl, hw1⟩)
              go_meet
              case rel =>
                refine ⟨?_, hAt.stepG hblk s1 hw1⟩
                show Value.int .i64 ((lim : Int) - 1) = Value.int .i64 ((lim - 1 : Nat) : Int)
                congr 1
                omega
            · go_wp2_with fail
              go_meet
              case rel => exact ⟨rfl, hAt⟩
          case rest =>
            obtain ⟨rfl, hAt1⟩ := hcut
            obtain ⟨hH1, hblk1⟩ := hAt1.holds hH (s1.trans hds) hblk
            have hc17 : Calls Yba.prog 40 #[.slice (some ⟨blk, off, none⟩) d.size cap, .int .i64 a', .int .i64 b'] wc fun e w' => e = .returned (.tuple #[.int .i64 (rd ltInt dk a' b' lim wb wp).c.1, .int .i64 (hintCode (rd ltInt dk a' b' lim wb wp).c.2)]) ∧ ∃ n os, w' = grow (Sort.ahead wc n) os := by
              have := C.piv blk off cap a' b' (rd ltInt dk a' b' lim wb wp).d1 wc hH1 hblk1 (by omega) (by omega) (by omega)
              rw [s1, hds] at this
              exact this
            go_upto_if 50 with (go_at_call 40; refine hc17.mono ?_; rintro e w2 ⟨rfl, hw2⟩)
            have hAt2 : At encU w blk off (rd ltInt dk a' b' lim wb wp).d1 w2 := hAt1.same hH (s1.trans hds) hblk hw2
            obtain ⟨hH2, hblk2⟩ := hAt2.holds hH (s1.trans hds) hblk
            go_cut [11, 12] from 19 (fun s11 s12 wc => s11 = .int .i64 (rd ltInt dk a' b' lim wb wp).pivot ∧ s12 = .int .i64 (hintCode (rd ltInt dk a' b' lim wb wp).hint) ∧ At encU w blk off (rd ltInt dk a' b' lim wb wp).d2 wc)
            case first =>
              by_cases hh : (rd ltInt dk a' b' lim wb wp).c.2 = .decreasing
              · have hcode : hintCode (rd ltInt dk a' b' lim wb wp).c.2 = 2 := by rw [hh]; rfl
                obtain ⟨e2, epv, eht⟩ := rd_dec hh
                have hc18 := reverseRange_intU blk off cap (rd ltInt dk a' b' lim wb wp).d1 a' b' w2 hH2 hab' (by omega) (by omega)
                rw [s1, hds] at hc18
                go_wp2_with (go_at_call 41; refine hc18.mono ?_; rintro e w3 ⟨rfl, hw3⟩)
                go_meet
                case rel =>
                  refine ⟨?_, by rw [eht]; rfl, by rw [e2]; exact hAt2.step hblk (by rw [← e2, s2, s1]) hw3⟩
                  rw [epv]
                  congr 1
                  omega
              · have hcode : ¬ (hintCode (rd ltInt dk a' b' lim wb wp).c.2 = 2) := fun h => hh (hintCode_two h)
                obtain ⟨e2, epv, eht⟩ := rd_not hh
                go_wp2_with fail
                go_meet
                case rel => exact ⟨by rw [epv], by rw [eht], by rw [e2]; exact hAt2⟩
            case rest =>
              obtain ⟨rfl, rfl, hAt3⟩ := hcut
              obtain ⟨hH3, hblk3⟩ := hAt3.holds hH (s2.trans hds) hblk
              go_upto_region 15 with fail
              go_cut [12, 68] from 19 (fun s12 s68 wx => s12 = .int .i64 (hintCode (rd ltInt dk a' b' lim wb wp).hint) ∧ s68 = .bool (wb && wp && decide ((rd ltInt dk a' b' lim wb wp).hint = .increasing)) ∧ wx = wc)
              case first =>
                cases wb <;> cases wp <;> cases hh3 : (rd ltInt dk a' b' lim _ _).hint <;>
                  (have hcode3 := congrArg hintCode hh3
                   simp only [hintCode] at hcode3
                   go_wp2_with fail
                   go_meet
                   exact ⟨by simp [hh3, hintCode], by simp [hh3, hintCode], rfl⟩)
              case rest =>
                obtain ⟨rfl, rfl, rfl⟩ := hcut
                go_upto_if 68 with fail
                go_cut [] from 19 (fun wx => (rd ltInt dk a' b' lim wb wp).pi.2 = false ∧ At encU w blk off (rd ltInt dk a' b' lim wb wp).pi.1 wx)
                case first =>
                  cases h68 : (wb && wp && decide ((rd ltInt dk a' b' lim wb wp).hint = .increasing))
                  · have epi := rd_pi_no h68
                    go_wp2_with fail
                    go_meet
                    case rel => exact ⟨by rw [epi], by rw [epi]; exact hAt3⟩
                  · have epi := rd_pi_yes h68
                    have hc19 := C.par blk off cap a' b' (rd ltInt dk a' b' lim wb wp).d2 wc hH3 (by omega) (by omega) (by omega)
                    rw [s2, hds, ← epi] at hc19
                    go_wp2_with (go_at_call 42; refine hc19.mono ?_; rintro e w4 ⟨rfl, hw4⟩)
                    all_goals first
                      | (have hp2 : (rd ltInt dk a' b' lim wb wp).pi.2 = false := by rw [epi]; assumption
                         go_meet
                         exact ⟨hp2, hAt3.step hblk (by rw [s3, s2]) hw4⟩)
                      | (have hp2 : (rd ltInt dk a' b' lim wb wp).pi.2 = true := by rw [epi]; assumption
                         (try simp only [Exit.inBlock, Exit.then]); refine bodyPost_ret (results_none rfl _ _ _) rfl ?_
                         refine ⟨rfl, ?_⟩
                         rw [← A.out, pdq_done h12 hl0 hp2]
                         exact hAt3.step hblk (by rw [s3, s2]) hw4)
                case rest =>
                  obtain ⟨hp2, hAt5⟩ := hcut
                  obtain ⟨hH5, hblk5⟩ := hAt5.holds hH (s3.trans hds) hblk
                  have hcw : ∀ t, t < d.size → wc.cell? ⟨blk, off + t, none⟩ = some (.int .u16 (rd ltInt dk a' b' lim wb wp).pi.1[t]!) := fun t ht => (hH5 t (by omega)).1
                  have hfw : ∀ t, t < d.size → wc.frozen? ⟨blk, off + t, none⟩ = false := fun t ht => (hH5 t (by omega)).2
                  go_upto_region 17 with fail
                  go_cut [87] from 19 (fun s87 wx => s87 = .bool (decide (a' > 0) && !ltInt (rd ltInt dk a' b' lim wb wp).pi.1[a' - 1]! (rd ltInt dk a' b' lim wb wp).pi.1[(rd ltInt dk a' b' lim wb wp).pivot]!) ∧ At encU w blk off (rd ltInt dk a' b' lim wb wp).pi.1 wx)
                  case first =>
                    rcases Nat.eq_zero_or_pos a' with ha0 | ha0
                    · have ha0z : decide ((a' : Int) > 0) = false := decide_eq_false (by omega)
                      go_big_quiet (first | (go_at_call 43; refine Calls.quiet_of_same (cmp_Less_intU _ _ _)))
                      go_wp2_with fail
                      go_meet
                      case rel => exact ⟨by simp [ha0], hAt5.ahead nq⟩
                    · have ha0z : (a' : Int) > 0 := by omega
                      go_big_quiet (first | (go_at_call 43; refine Calls.quiet_of_same (cmp_Less_intU _ _ _)))
                      go_wp2_with fail
                      go_meet
                      case rel => exact ⟨by simp [ha0], hAt5.ahead nq⟩
                  case rest =>
                    obtain ⟨rfl, hAt6⟩ := hcut
                    obtain ⟨hH6, hblk6⟩ := hAt6.holds hH (s3.trans hds) hblk
                    clear hcw hfw
                    cases h87 : (decide (a' > 0) && !ltInt (rd ltInt dk a' b' lim wb wp).pi.1[a' - 1]! (rd ltInt dk a' b' lim wb wp).pi.1[(rd ltInt dk a' b' lim wb wp).pivot]!)
                    ·
                      obtain ⟨mid, ap, d4, hx⟩ : ∃ mid ap d4, partition ltInt (rd ltInt dk a' b' lim wb wp).pi.1 a' b' (rd ltInt dk a' b' lim wb wp).pivot = (mid, ap, d4) := ⟨(partition ltInt (rd ltInt dk a' b' lim wb wp).pi.1 a' b' (rd ltInt dk a' b' lim wb wp).pivot).1, (partition ltInt (rd ltInt dk a' b' lim wb wp).pi.1 a' b' (rd ltInt dk a' b' lim wb wp).pivot).2.1, (partition ltInt (rd ltInt dk a' b' lim wb wp).pi.1 a' b' (rd ltInt dk a' b' lim wb wp).pivot).2.2, rfl⟩
                      obtain ⟨r1, r2, r3, r4, r5, r6, r7⟩ := round_part S.swo S.prt hpv.1 hpv.2 (show b' ≤ (rd ltInt dk a' b' lim wb wp).pi.1.size by omega) B3 hx
                      have hc22 := C.prt blk off cap a' b' (rd ltInt dk a' b' lim wb wp).pivot (rd ltInt dk a' b' lim wb wp).pi.1 wc hH6 hpv.1 hpv.2 (by omega) (by omega)
                      rw [s3, hds, hx] at hc22
                      have X : Aside (partition ltInt (rd ltInt dk a' b' lim wb wp).pi.1 a' b' (rd ltInt dk a' b' lim wb wp).pivot = (mid, ap, d4)) := hx
                      clear hx
                      go_upto_if 113 with (go_at_call 45; refine hc22.mono ?_; rintro e w7 ⟨rfl, hw7⟩)
                      have hx := X.out
                      have hAt7 : At encU w blk off d4 w7 := hAt6.step hblk r3 hw7
                      obtain ⟨hH7, hblk7⟩ := hAt7.holds hH (r3.trans (s3.trans hds)) hblk
                      by_cases h4 : mid - a' < b' - mid
                      · have h4z : (mid : Int) - (a' : Int) < (b' : Int) - (mid : Int) := by omega
                        have hih := ih blk off cap a' mid (rd ltInt dk a' b' lim wb wp).lim d4 w7 (by omega) hH7 hblk7 (by omega) (by omega) (by omega) (Nat.lt_of_le_of_lt (Nat.le_trans rd_lim_le hlim) hlimit) r4
                        rw [r3, s3, hds] at hih
                        obtain ⟨pL, sL⟩ := S.pdq S.swo d4 a' mid (rd ltInt dk a' b' lim wb wp).lim true true (by omega) (by omega) r4
                        go_wp2_with (go_at_call 25; refine hih.mono ?_; rintro e w8 ⟨rfl, hw8⟩)
                        go_roundg (b' - (mid + 1))
                        case measure => omega
                        case rel =>
                          refine ⟨mid + 1, b', (rd ltInt dk a' b' lim wb wp).lim, decide (mid - a' ≥ (b' - a') / 8), ap, pdq ltInt d4 a' mid (rd ltInt dk a' b' lim wb wp).lim true true, by simp, rfl, rfl, ?_, rfl, by omega, by omega, Nat.le_refl _, by omega, Nat.le_trans rd_lim_le hlim, by rw [pL.1, r3, s3, hds], (r6 _ pL sL).1, hAt7.stepG hblk pL.1 hw8, ?_⟩
                          · exact congrArg Value.bool (eighth (by omega) (by omega))
                          · rw [← A.out, pdq_left h12 hl0 hp2 h87 (by rw [hx]; exact ⟨r1, r2⟩) (by rw [hx]; exact h4), hx]
                      · have h4z : ¬ ((mid : Int) - (a' : Int) < (b' : Int) - (mid : Int)) := by omega
                        have hih := ih blk off cap (mid + 1) b' (rd ltInt dk a' b' lim wb wp).lim d4 w7 (by omega) hH7 hblk7 (by omega) (by omega) (by omega) (Nat.lt_of_le_of_lt (Nat.le_trans rd_lim_le hlim) hlimit) r5
                        rw [r3, s3, hds] at hih
                        obtain ⟨pL, sL⟩ := S.pdq S.swo d4 (mid + 1) b' (rd ltInt dk a' b' lim wb wp).lim true true (by omega) (by omega) r5
                        go_wp2_with (go_at_call 25; refine hih.mono ?_; rintro e w8 ⟨rfl, hw8⟩)
                        go_roundg (mid - a')
                        case measure => omega
                        case rel =>
                          refine ⟨a', mid, (rd ltInt dk a' b' lim wb wp).lim, decide (b' - mid ≥ (b' - a') / 8), ap, pdq ltInt d4 (mid + 1) b' (rd ltInt dk a' b' lim wb wp).lim true true, rfl, rfl, rfl, ?_, rfl, by omega, by omega, Nat.le_refl _, by omega, Nat.le_trans rd_lim_le hlim, by rw [pL.1, r3, s3, hds], (r7 _ pL sL).1, hAt7.stepG hblk pL.1 hw8, ?_⟩
                          · exact congrArg Value.bool (eighth (by omega) (by omega))
                          · rw [← A.out, pdq_right h12 hl0 hp2 h87 (by rw [hx]; exact ⟨r1, r2⟩) (by rw [hx]; exact h4), hx]
                    ·
                      have h87' := h87
                      simp only [Bool.and_eq_true, decide_eq_true_eq, Bool.not_eq_true'] at h87'
                      obtain ⟨mid, d4, hx⟩ : ∃ mid d4, partitionEqual ltInt (rd ltInt dk a' b' lim wb wp).pi.1 a' b' (rd ltInt dk a' b' lim wb wp).pivot = (mid, d4) := ⟨(partitionEqual ltInt (rd ltInt dk a' b' lim wb wp).pi.1 a' b' (rd ltInt dk a' b' lim wb wp).pivot).1, (partitionEqual ltInt (rd ltInt dk a' b' lim wb wp).pi.1 a' b' (rd ltInt dk a' b' lim wb wp).pivot).2, rfl⟩
                      obtain ⟨r1, r2, r3, r4, _⟩ := round_eq S.swo S.peq h87'.1 hpv.1 hpv.2 (show b' ≤ (rd ltInt dk a' b' lim wb wp).pi.1.size by omega) B3 h87'.2 hx
                      have hc21 := C.peq blk off cap a' b' (rd ltInt dk a' b' lim wb wp).pivot (rd ltInt dk a' b' lim wb wp).pi.1 wc hH6 hpv.1 hpv.2 (by omega) (by omega)
                      rw [s3, hds, hx] at hc21
                      have X : Aside (partitionEqual ltInt (rd ltInt dk a' b' lim wb wp).pi.1 a' b' (rd ltInt dk a' b' lim wb wp).pivot = (mid, d4)) := hx
                      clear hx
                      go_wp2_with (go_at_call 44; refine hc21.mono ?_; rintro e w7 ⟨rfl, hw7⟩)
                      go_roundg (b' - mid)
                      case measure => omega
                      case rel =>
                        have hx := X.out
                        exact ⟨mid, b', (rd ltInt dk a' b' lim wb wp).lim, wb, wp, d4, rfl, rfl, rfl, rfl, rfl, r2, hb', Nat.le_refl _, by omega, Nat.le_trans rd_lim_le hlim, by rw [r3, s3, hds], r4, hAt6.step hblk r3 hw7, by rw [← A.out, pdq_eq h12 hl0 hp2 h87 (by rw [hx]; exact ⟨r1, r2⟩), hx]⟩

end Go.Proofs.Ybulkamjs
