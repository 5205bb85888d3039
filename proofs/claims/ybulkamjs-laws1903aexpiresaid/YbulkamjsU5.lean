/- A function of slices.Sort at uint16: the walk that the kit has at int, turned to this program by a small program (tools/reaim.py). -/
import Derived.Test.YbulkamjsU0
import Derived.Sort.WalkC
namespace Go.Proofs.Ybulkamjs
open Go.RowKit Go.Sort Go.Proofs
set_option linter.unusedVariables false
set_option linter.unusedSimpArgs false
set_option maxHeartbeats 6400000 in
set_option maxRecDepth 100000 in
theorem partitionEqual_intU (blk off cap a b pivot : Nat) (d : Array Int) (w : World) (hH : Holds (Value.int .u16) w blk off d) (hap : a ≤ pivot) (hpb : pivot < b) (hb : b ≤ d.size) (hsz : d.size < 4611686018427387904) :
    Calls Yba.prog 44 #[.slice (some ⟨blk, off, none⟩) d.size cap, .int .i64 a, .int .i64 b, .int .i64 pivot] w fun e w' =>
      e = .returned (.int .i64 (Sort.partitionEqual Sort.ltInt d a b pivot).1) ∧ ∃ n, w' = (putRow (Value.int .u16) w blk off (Sort.partitionEqual Sort.ltInt d a b pivot).2).drewN n := by
  have hla : a < d.size := by omega
  have hlp : pivot < d.size := by omega
  obtain ⟨G, hG⟩ : ∃ G : Nat → Int, ∀ j, G j = d[j]! := ⟨fun j => d[j]!, fun _ => rfl⟩
  have ca : w.cell? ⟨blk, off + a, none⟩ = some (.int .u16 (G a)) := by rw [hG]; exact (hH a hla).1
  have fa := (hH a hla).2
  have cp : w.cell? ⟨blk, off + pivot, none⟩ = some (.int .u16 (G pivot)) := by rw [hG]; exact (hH pivot hlp).1
  have fp := (hH pivot hlp).2
  obtain ⟨v', hy'⟩ := cell?_setCell_some (w := w) (p := ⟨blk, off + a, none⟩) (x := .int .u16 (G pivot)) (q := ⟨blk, off + pivot, none⟩) cp
  have AG : Hid (∀ j, G j = d[j]!) := hG
  have AH : Hid (Holds (Value.int .u16) w blk off d) := hH
  clear hG hH
  go_enter Yba.func44, Yba.ntmps44
  go_wp2
  go_region
  go_wp2
  go_loopw [9, 10] (fun vi vj wr => ∃ (i j n : Nat) (dk : Array Int), vi = .int .i64 i ∧ vj = .int .i64 j ∧ a < i ∧ i ≤ j + 1 ∧ j < b ∧ dk.size = d.size ∧ wr = (putRow (Value.int .u16) w blk off dk).drewN n ∧
      Sort.partEqLoop Sort.ltInt a i j dk = Sort.partEqLoop Sort.ltInt a (a + 1) (b - 1) (Sort.swp d a pivot))
    (fun vi vj _ => (intOf vj).toNat + 1 - (intOf vi).toNat)
  case atStart =>
    refine ⟨a + 1, b - 1, 1, Sort.swp d a pivot, by go_num, by go_num, by omega, by omega, by omega, size_swp _ _ _, ?_, rfl⟩
    have e := swap_worldC (Value.int .u16) w blk off d 0 a pivot hla hlp
    rw [putRow_self _ w blk off d AH.out] at e
    rw [AG.out a, AG.out pivot]
    exact e
  case round =>
    obtain ⟨i, j, n, dk, rfl, rfl, hai, hij, hjb, hs, hw, heq⟩ := hrel
    clear ca fa cp fp hy' v' AG
    rename World => W1
    have hHk : Holds (Value.int .u16) W1 blk off dk := by
      rw [hw]
      exact holds_putRow (Value.int .u16) w blk off d dk AH.out hs
    obtain ⟨Gk, hG⟩ : ∃ Gk : Nat → Int, ∀ t, Gk t = dk[t]! := ⟨fun t => dk[t]!, fun _ => rfl⟩
    have hc : ∀ t, t < d.size → W1.cell? ⟨blk, off + t, none⟩ = some (.int .u16 (Gk t)) := fun t ht => by rw [hG]; exact (hHk t (by omega)).1
    have hf : ∀ t, t < d.size → W1.frozen? ⟨blk, off + t, none⟩ = false := fun t ht => (hHk t (by omega)).2
    have AG : Hid (∀ t, Gk t = dk[t]!) := hG
    have AW : Hid (W1 = (putRow (Value.int .u16) w blk off dk).drewN n) := hw
    have AE : Hid (Sort.partEqLoop Sort.ltInt a i j dk = Sort.partEqLoop Sort.ltInt a (a + 1) (b - 1) (Sort.swp d a pivot)) := heq
    clear hG hw heq hHk
    go_wp2
    go_loopw [9] (fun vi w1 => ∃ (i' n1 : Nat), vi = .int .i64 i' ∧ i ≤ i' ∧ i' ≤ j + 1 ∧ w1 = W1.drewN n1 ∧
        Hid (Sort.scanUp (fun x => !Sort.ltInt dk[a]! x) dk j i' = Sort.scanUp (fun x => !Sort.ltInt dk[a]! x) dk j i))
      (fun vi _ => j + 1 - (intOf vi).toNat)
    case atStart => exact ⟨i, 0, rfl, Nat.le_refl _, hij, rfl, rfl⟩
    case round =>
      obtain ⟨i', n1, rfl, hii, hij', hw1, hsc⟩ := hrel
      have hcw : ∀ t, t < d.size → wr.cell? ⟨blk, off + t, none⟩ = some (.int .u16 (Gk t)) := fun t ht => by rw [hw1]; exact hc t ht
      have HW1 : Hid (wr = W1.drewN n1) := hw1
      clear hw1
      by_cases hle : i' ≤ j
      · go_wp2_with fail
        go_big_quiet (first | (go_at_call 43; refine Calls.quiet_of_same (cmp_Less_intU _ _ _)))
        go_wp2
        ·
          have ht : (!Sort.ltInt (Gk a) (Gk i')) = true := by assumption
          go_roundw
          case rel => exact ⟨i' + 1, n1 + nq, by go_num, by omega, by omega, by rw [HW1.out, World.drewN_drewN], (scanUp_go (fun x => !Sort.ltInt dk[a]! x) dk j i' hle (by rw [← AG.out a, ← AG.out i']; exact ht)).symm.trans hsc.out⟩
          case measure => simp [intOf]; omega
        ·
          have ht : (!Sort.ltInt (Gk a) (Gk i')) = false := by assumption
          have hi2 : Hid (i' = Sort.scanUp (fun x => !Sort.ltInt dk[a]! x) dk j i) := (scanUp_end (fun x => !Sort.ltInt dk[a]! x) dk j i' (Or.inr (by rw [← AG.out a, ← AG.out i']; exact ht))).symm.trans hsc.out
          clear ht
          have hw2 : wr.drewN nq = W1.drewN (n1 + nq) := by rw [HW1.out, World.drewN_drewN]
          clear hcw HW1 hsc
          go_loopw [10] (fun vj w2 => ∃ (j' n2 : Nat), vj = .int .i64 j' ∧ j' ≤ j ∧ i' ≤ j' + 1 ∧ w2 = W1.drewN n2 ∧
              Hid (Sort.scanDown (fun x => Sort.ltInt dk[a]! x) dk i' j' = Sort.scanDown (fun x => Sort.ltInt dk[a]! x) dk i' j))
            (fun vj _ => (intOf vj).toNat)
          case atStart => exact ⟨j, n1 + nq, rfl, Nat.le_refl _, hij', hw2, rfl⟩
          case round =>
            clear hw2
            obtain ⟨j', n2, rfl, hjj, hij2, hw2, hsd⟩ := hrel
            have hcw : ∀ t, t < d.size → wr.cell? ⟨blk, off + t, none⟩ = some (.int .u16 (Gk t)) := fun t ht => by rw [hw2]; exact hc t ht
            have HW2 : Hid (wr = W1.drewN n2) := hw2
            clear hw2
            by_cases hle2 : i' ≤ j'
            · go_wp2_with fail
              go_big_quiet (first | (go_at_call 43; refine Calls.quiet_of_same (cmp_Less_intU _ _ _)))
              go_wp2
              ·
                have ht : Sort.ltInt (Gk a) (Gk j') = true := by assumption
                go_roundw
                case rel => exact ⟨j' - 1, n2 + nq, by go_num, by omega, by omega, by rw [HW2.out, World.drewN_drewN], (scanDown_go (fun x => Sort.ltInt dk[a]! x) dk i' j' hle2 (by omega) (by rw [← AG.out a, ← AG.out j']; exact ht)).symm.trans hsd.out⟩
                case measure => simp [intOf]; omega
              ·
                have ht : Sort.ltInt (Gk a) (Gk j') = false := by assumption
                have hj2 : Hid (j' = Sort.scanDown (fun x => Sort.ltInt dk[a]! x) dk i' j) := (scanDown_end (fun x => Sort.ltInt dk[a]! x) dk i' j' (Or.inr (by rw [← AG.out a, ← AG.out j']; exact ht))).symm.trans hsd.out
                clear hcw hsd ht
                have hw3 : wr.drewN nq = W1.drewN (n2 + nq) := by rw [HW2.out, World.drewN_drewN]
                generalize wr.drewN nq = W3 at hw3 ⊢
                have hc3 : ∀ t, t < d.size → W3.cell? ⟨blk, off + t, none⟩ = some (.int .u16 (Gk t)) := fun t ht => by rw [hw3]; exact hc t ht
                have hf3 : ∀ t, t < d.size → W3.frozen? ⟨blk, off + t, none⟩ = false := fun t ht => by rw [hw3]; exact hf t ht
                have HW3 : Hid (W3 = W1.drewN (n2 + nq)) := hw3
                clear hw3
                obtain ⟨v3, hy3⟩ := cell?_setCell_some (w := W3) (p := ⟨blk, off + i', none⟩) (x := .int .u16 (Gk j')) (q := ⟨blk, off + j', none⟩) (hc3 j' (by omega))
                have hlt3 := scans_lt Sort.ltInt a i j dk (by omega) hi2.out hj2.out hle2
                go_wp2
                go_region
                all_goals go_wp2
                all_goals go_roundw
                case rel =>
                  refine ⟨i' + 1, j' - 1, n + (n2 + nq) + 1, Sort.swp dk i' j', by go_num, by go_num, by omega, by omega, by omega, by rw [size_swp]; exact hs, ?_, ?_⟩
                  · rw [HW3.out, AW.out, World.drewN_drewN, AG.out i', AG.out j']
                    exact swap_worldC (Value.int .u16) w blk off dk _ i' j' (by omega) (by omega)
                  · rw [← AE.out]; exact (partEq_go Sort.ltInt a i j dk hi2.out hj2.out (by omega)).symm
                case measure => simp [intOf]; omega
            · go_wp2_with fail
              go_big_quiet (first | (go_at_call 43; refine Calls.quiet_of_same (cmp_Less_intU _ _ _)))
              have hj2 : Hid (j' = Sort.scanDown (fun x => Sort.ltInt dk[a]! x) dk i' j) := (scanDown_end (fun x => Sort.ltInt dk[a]! x) dk i' j' (Or.inl hle2)).symm.trans hsd.out
              clear hcw hsd
              have hw3 : wr.drewN nq = W1.drewN (n2 + nq) := by rw [HW2.out, World.drewN_drewN]
              generalize wr.drewN nq = W3 at hw3 ⊢
              have hc3 : ∀ t, t < d.size → W3.cell? ⟨blk, off + t, none⟩ = some (.int .u16 (Gk t)) := fun t ht => by rw [hw3]; exact hc t ht
              have hf3 : ∀ t, t < d.size → W3.frozen? ⟨blk, off + t, none⟩ = false := fun t ht => by rw [hw3]; exact hf t ht
              have HW3 : Hid (W3 = W1.drewN (n2 + nq)) := hw3
              clear hw3
              go_wp2
              go_ret
              have e := partEq_break Sort.ltInt a i j dk hi2.out hj2.out (by omega)
              refine ⟨?_, n + (n2 + nq), ?_⟩
              · unfold Sort.partitionEqual; rw [← AE.out, e]; rfl
              · unfold Sort.partitionEqual; rw [← AE.out, e, HW3.out, AW.out, World.drewN_drewN]
      · go_wp2_with fail
        go_big_quiet (first | (go_at_call 43; refine Calls.quiet_of_same (cmp_Less_intU _ _ _)))
        go_wp2
        have hi2 : Hid (i' = Sort.scanUp (fun x => !Sort.ltInt dk[a]! x) dk j i) := (scanUp_end (fun x => !Sort.ltInt dk[a]! x) dk j i' (Or.inl hle)).symm.trans hsc.out
        have hw2 : wr.drewN nq = W1.drewN (n1 + nq) := by rw [HW1.out, World.drewN_drewN]
        clear hcw HW1 hsc
        go_loopw [10] (fun vj w2 => ∃ (j' n2 : Nat), vj = .int .i64 j' ∧ j' ≤ j ∧ i' ≤ j' + 1 ∧ w2 = W1.drewN n2 ∧
            Hid (Sort.scanDown (fun x => Sort.ltInt dk[a]! x) dk i' j' = Sort.scanDown (fun x => Sort.ltInt dk[a]! x) dk i' j))
          (fun vj _ => (intOf vj).toNat)
        case atStart => exact ⟨j, n1 + nq, rfl, Nat.le_refl _, hij', hw2, rfl⟩
        case round =>
          clear hw2
          obtain ⟨j', n2, rfl, hjj, hij2, hw2, hsd⟩ := hrel
          have hcw : ∀ t, t < d.size → wr.cell? ⟨blk, off + t, none⟩ = some (.int .u16 (Gk t)) := fun t ht => by rw [hw2]; exact hc t ht
          have HW2 : Hid (wr = W1.drewN n2) := hw2
          clear hw2
          by_cases hle2 : i' ≤ j'
          · exfalso; omega     
          · go_wp2_with fail
            go_big_quiet (first | (go_at_call 43; refine Calls.quiet_of_same (cmp_Less_intU _ _ _)))
            have hj2 : Hid (j' = Sort.scanDown (fun x => Sort.ltInt dk[a]! x) dk i' j) := (scanDown_end (fun x => Sort.ltInt dk[a]! x) dk i' j' (Or.inl hle2)).symm.trans hsd.out
            clear hcw hsd
            have hw3 : wr.drewN nq = W1.drewN (n2 + nq) := by rw [HW2.out, World.drewN_drewN]
            generalize wr.drewN nq = W3 at hw3 ⊢
            have hc3 : ∀ t, t < d.size → W3.cell? ⟨blk, off + t, none⟩ = some (.int .u16 (Gk t)) := fun t ht => by rw [hw3]; exact hc t ht
            have hf3 : ∀ t, t < d.size → W3.frozen? ⟨blk, off + t, none⟩ = false := fun t ht => by rw [hw3]; exact hf t ht
            have HW3 : Hid (W3 = W1.drewN (n2 + nq)) := hw3
            clear hw3
            go_wp2
            go_ret
            have e := partEq_break Sort.ltInt a i j dk hi2.out hj2.out (by omega)
            refine ⟨?_, n + (n2 + nq), ?_⟩
            · unfold Sort.partitionEqual; rw [← AE.out, e]; rfl
            · unfold Sort.partitionEqual; rw [← AE.out, e, HW3.out, AW.out, World.drewN_drewN]

theorem partitionEqualOrdered_intU (blk off cap a b pivot : Nat) (d : Array Int) (w : World) (hH : Holds (Value.int .u16) w blk off d) (hap : a ≤ pivot) (hpb : pivot < b) (hb : b ≤ d.size) (hsz : d.size < 4611686018427387904) :
    Calls Yba.prog 44 #[.slice (some ⟨blk, off, none⟩) d.size cap, .int .i64 a, .int .i64 b, .int .i64 pivot] w fun e w' =>
      e = .returned (.int .i64 (Sort.partitionEqual Sort.ltInt d a b pivot).1) ∧ ∃ n, w' = putRow (Value.int .u16) (Sort.ahead w n) blk off (Sort.partitionEqual Sort.ltInt d a b pivot).2 :=
  (partitionEqual_intU blk off cap a b pivot d w hH hap hpb hb hsz).mono fun _ _ ⟨he, n, hw⟩ => ⟨he, n, hw⟩

end Go.Proofs.Ybulkamjs
