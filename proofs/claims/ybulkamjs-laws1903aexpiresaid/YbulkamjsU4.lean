/- A function of slices.Sort at uint16: the walk that the kit has at int, turned to this program by a small program (tools/reaim.py). -/
import Derived.Test.YbulkamjsU0
import Derived.Sort.WalkC4
namespace Go.Proofs.Ybulkamjs
open Go.RowKit Go.Sort Go.Proofs
set_option linter.unusedVariables false
set_option linter.unusedSimpArgs false
set_option maxHeartbeats 12800000 in
set_option maxRecDepth 100000 in
theorem partition_intU (blk off cap a b pivot : Nat) (d : Array Int) (w : World) (hH : Holds (Value.int .u16) w blk off d) (hap : a ≤ pivot) (hpb : pivot < b) (hb : b ≤ d.size) (hsz : d.size < 4611686018427387904) :
    Calls Yba.prog 45 #[.slice (some ⟨blk, off, none⟩) d.size cap, .int .i64 a, .int .i64 b, .int .i64 pivot] w fun e w' =>
      e = .returned (.tuple #[.int .i64 (Sort.partition Sort.ltInt d a b pivot).1, .bool (Sort.partition Sort.ltInt d a b pivot).2.1]) ∧ ∃ n, w' = (putRow (Value.int .u16) w blk off (Sort.partition Sort.ltInt d a b pivot).2.2).drewN n := by
  have hla : a < d.size := by omega
  have hlp : pivot < d.size := by omega
  obtain ⟨G, hG⟩ : ∃ G : Nat → Int, ∀ j, G j = d[j]! := ⟨fun j => d[j]!, fun _ => rfl⟩
  have ca : w.cell? ⟨blk, off + a, none⟩ = some (.int .u16 (G a)) := by rw [hG]; exact (hH a hla).1
  have fa := (hH a hla).2
  have cp : w.cell? ⟨blk, off + pivot, none⟩ = some (.int .u16 (G pivot)) := by rw [hG]; exact (hH pivot hlp).1
  have fp := (hH pivot hlp).2
  obtain ⟨v', hy'⟩ := cell?_setCell_some (w := w) (p := ⟨blk, off + a, none⟩) (x := .int .u16 (G pivot)) (q := ⟨blk, off + pivot, none⟩) cp
  have hw : ((w.setCell ⟨blk, off + a, none⟩ (.int .u16 (G pivot))).setCell ⟨blk, off + pivot, none⟩ (.int .u16 (G a))).drew = (putRow (Value.int .u16) w blk off (Sort.swp d a pivot)).drewN 1 := by
    have e := swap_worldC (Value.int .u16) w blk off d 0 a pivot hla hlp
    rw [putRow_self _ w blk off d hH] at e
    rw [hG a, hG pivot]
    exact e
  have AH : Hid (Holds (Value.int .u16) w blk off d) := hH
  have HW0 := Hid.mk' hw
  clear hG hH hw
  go_enter Yba.func45, Yba.ntmps45
  go_wp2
  go_region
  go_wp2
  clear ca fa cp fp hy' v'
  have hw := HW0.out
  clear HW0
  generalize ((w.setCell ⟨blk, off + a, none⟩ (.int .u16 (G pivot))).setCell ⟨blk, off + pivot, none⟩ (.int .u16 (G a))).drew = W1 at hw ⊢
  obtain ⟨dk, hdk⟩ : ∃ dk, dk = Sort.swp d a pivot := ⟨_, rfl⟩
  obtain ⟨n, hn⟩ : ∃ n : Nat, n = 1 := ⟨_, rfl⟩
  rw [← hdk, ← hn] at hw
  clear hn
  have hs : dk.size = d.size := by rw [hdk, size_swp]
  have e1 : ((a : Int) + 1) = ((a + 1 : Nat) : Int) := by omega
  have e2 : ((b : Int) - 1) = ((b - 1 : Nat) : Int) := by omega
  rw [e1, e2]
  clear e1 e2
  obtain ⟨i, hi⟩ : ∃ i, i = a + 1 := ⟨_, rfl⟩
  obtain ⟨j, hj⟩ : ∃ j, j = b - 1 := ⟨_, rfl⟩
  rw [← hi, ← hj]
  have hai : a < i := by omega
  have hij : i ≤ j + 1 := by omega
  have hjb : j < b := by omega
  have HI := Hid.mk' hi
  have HJ := Hid.mk' hj
  have HDK := Hid.mk' hdk
  clear hi hj hdk
  have hHk : Holds (Value.int .u16) W1 blk off dk := by
    rw [hw]
    exact holds_putRow (Value.int .u16) w blk off d dk AH.out hs
  obtain ⟨Gk, hG⟩ : ∃ Gk : Nat → Int, ∀ t, Gk t = dk[t]! := ⟨fun t => dk[t]!, fun _ => rfl⟩
  have hc : ∀ t, t < d.size → W1.cell? ⟨blk, off + t, none⟩ = some (.int .u16 (Gk t)) := fun t ht => by rw [hG]; exact (hHk t (by omega)).1
  have hf : ∀ t, t < d.size → W1.frozen? ⟨blk, off + t, none⟩ = false := fun t ht => (hHk t (by omega)).2
  have AG : Hid (∀ t, Gk t = dk[t]!) := hG
  have AW : Hid (W1 = (putRow (Value.int .u16) w blk off dk).drewN n) := hw
  clear hG hw hHk
  go_loopw [10] (fun vi w1 => ∃ (i' n1 : Nat), vi = .int .i64 i' ∧ i ≤ i' ∧ i' ≤ j + 1 ∧ w1 = W1.drewN n1 ∧
      Hid (Sort.scanUp (fun x => Sort.ltInt x dk[a]!) dk j i' = Sort.scanUp (fun x => Sort.ltInt x dk[a]!) dk j i))
    (fun vi _ => j + 1 - (intOf vi).toNat)
  case atStart => exact ⟨i, 0, rfl, Nat.le_refl _, hij, rfl, rfl⟩
  case round =>
    obtain ⟨i', n1, rfl, hii, hij', hw1, hsc⟩ := hrel
    have hcw : ∀ t, t < d.size → wr.cell? ⟨blk, off + t, none⟩ = some (.int .u16 (Gk t)) := fun t ht => by rw [hw1]; exact hc t ht
    have HW1 : Hid (wr = W1.drewN n1) := hw1
    clear hw1
    by_cases hle : i' ≤ j
    · go_wp2_with fail
      go_big_quiet (first | (go_at_call 43; refine Calls.quiet_of_same (cmp_Less_intU _ _ _)))
      go_wp2
      ·
        have ht : Sort.ltInt (Gk i') (Gk a) = true := by assumption
        go_roundw
        case rel => exact ⟨i' + 1, n1 + nq, by go_num, by omega, by omega, by rw [HW1.out, World.drewN_drewN], (scanUp_go (fun x => Sort.ltInt x dk[a]!) dk j i' hle (by rw [← AG.out a, ← AG.out i']; exact ht)).symm.trans hsc.out⟩
        case measure => simp [intOf]; omega
      ·
        have ht : Sort.ltInt (Gk i') (Gk a) = false := by assumption
        have hi2 : Hid (i' = Sort.scanUp (fun x => Sort.ltInt x dk[a]!) dk j i) := (scanUp_end (fun x => Sort.ltInt x dk[a]!) dk j i' (Or.inr (by rw [← AG.out a, ← AG.out i']; exact ht))).symm.trans hsc.out
        clear ht
        have hw2 : wr.drewN nq = W1.drewN (n1 + nq) := by rw [HW1.out, World.drewN_drewN]
        clear hcw HW1 hsc
        go_loopw [11] (fun vj w2 => ∃ (j' n2 : Nat), vj = .int .i64 j' ∧ j' ≤ j ∧ i' ≤ j' + 1 ∧ w2 = W1.drewN n2 ∧
            Hid (Sort.scanDown (fun x => !Sort.ltInt x dk[a]!) dk i' j' = Sort.scanDown (fun x => !Sort.ltInt x dk[a]!) dk i' j))
          (fun vj _ => (intOf vj).toNat)
        case atStart => exact ⟨j, n1 + nq, rfl, Nat.le_refl _, hij', hw2, rfl⟩
        case round =>
          clear hw2
          obtain ⟨j', n2, rfl, hjj, hij2, hw2, hsd⟩ := hrel
          have hcw : ∀ t, t < d.size → wr.cell? ⟨blk, off + t, none⟩ = some (.int .u16 (Gk t)) := fun t ht => by rw [hw2]; exact hc t ht
          have HW2 : Hid (wr = W1.drewN n2) := hw2
          clear hw2
          by_cases hle2 : i' ≤ j'
          · go_wp2_with fail
            go_big_quiet (first | (go_at_call 43; refine Calls.quiet_of_same (cmp_Less_intU _ _ _)))
            go_wp2
            ·
              have ht : (!Sort.ltInt (Gk j') (Gk a)) = true := by assumption
              go_roundw
              case rel => exact ⟨j' - 1, n2 + nq, by go_num, by omega, by omega, by rw [HW2.out, World.drewN_drewN], (scanDown_go (fun x => !Sort.ltInt x dk[a]!) dk i' j' hle2 (by omega) (by rw [← AG.out a, ← AG.out j']; exact ht)).symm.trans hsd.out⟩
              case measure => simp [intOf]; omega
            ·
              have ht : (!Sort.ltInt (Gk j') (Gk a)) = false := by assumption
              have hj2 : Hid (j' = Sort.scanDown (fun x => !Sort.ltInt x dk[a]!) dk i' j) := (scanDown_end (fun x => !Sort.ltInt x dk[a]!) dk i' j' (Or.inr (by rw [← AG.out a, ← AG.out j']; exact ht))).symm.trans hsd.out
              clear hcw hsd ht
              have hw3 : wr.drewN nq = W1.drewN (n2 + nq) := by rw [HW2.out, World.drewN_drewN]
              generalize wr.drewN nq = W3 at hw3 ⊢
              have hc3 : ∀ t, t < d.size → W3.cell? ⟨blk, off + t, none⟩ = some (.int .u16 (Gk t)) := fun t ht => by rw [hw3]; exact hc t ht
              have hf3 : ∀ t, t < d.size → W3.frozen? ⟨blk, off + t, none⟩ = false := fun t ht => by rw [hw3]; exact hf t ht
              have HW3 : Hid (W3 = W1.drewN (n2 + nq)) := hw3
              clear hw3
              obtain ⟨v3, hy3⟩ := cell?_setCell_some (w := W3) (p := ⟨blk, off + i', none⟩) (x := .int .u16 (Gk j')) (q := ⟨blk, off + j', none⟩) (hc3 j' (by omega))
              have hlt3 := part_scans_lt Sort.ltInt a i j dk (by omega) hi2.out hj2.out hle2
              go_wp2
              go_region
              all_goals go_wp2
              obtain ⟨R, hR⟩ : ∃ R, R = Sort.partLoop Sort.ltInt a (i' + 1) (j' - 1) (Sort.swp dk i' j') := ⟨_, rfl⟩
              have HP : Hid (Sort.partition Sort.ltInt d a b pivot = (R.1, false, Sort.swp R.2 R.1 a)) := by rw [hR]; exact part_first_go Sort.ltInt d a b pivot HI.out HJ.out HDK.out hi2.out hj2.out (by omega)
              have hw0 : ((W3.setCell ⟨blk, off + i', none⟩ (.int .u16 (Gk j'))).setCell ⟨blk, off + j', none⟩ (.int .u16 (Gk i'))).drew = (putRow (Value.int .u16) w blk off (Sort.swp dk i' j')).drewN (n + (n2 + nq) + 1) := by
                rw [HW3.out, AW.out, World.drewN_drewN, AG.out i', AG.out j']
                exact swap_worldC (Value.int .u16) w blk off dk _ i' j' (by omega) (by omega)
              have HR : Hid (R = Sort.partLoop Sort.ltInt a (i' + 1) (j' - 1) (Sort.swp dk i' j')) := hR
              clear hR hc hf hc3 hf3 hy3 HW3 AW AG hi2 hj2
              go_loopw [10, 11] (fun vi vj wr => ∃ (i j n : Nat) (dk : Array Int), vi = .int .i64 i ∧ vj = .int .i64 j ∧ a < i ∧ i ≤ j + 1 ∧ j < b ∧ dk.size = d.size ∧ wr = (putRow (Value.int .u16) w blk off dk).drewN n ∧
                  Sort.partLoop Sort.ltInt a i j dk = R)
                (fun vi vj _ => (intOf vj).toNat + 1 - (intOf vi).toNat)
              case atStart => exact ⟨i' + 1, j' - 1, _, Sort.swp dk i' j', by go_num, by go_num, by omega, by omega, by omega, by rw [size_swp]; exact hs, hw0, HR.out.symm⟩
              case round =>
                clear hw0 HR
                obtain ⟨i, j, n, dk, rfl, rfl, hai, hij, hjb, hs, hw, heq⟩ := hrel
                rename World => W1
                have AE : Hid (Sort.partLoop Sort.ltInt a i j dk = R) := heq
                clear heq
                have hHk : Holds (Value.int .u16) W1 blk off dk := by
                  rw [hw]
                  exact holds_putRow (Value.int .u16) w blk off d dk AH.out hs
                obtain ⟨Gk, hG⟩ : ∃ Gk : Nat → Int, ∀ t, Gk t = dk[t]! := ⟨fun t => dk[t]!, fun _ => rfl⟩
                have hc : ∀ t, t < d.size → W1.cell? ⟨blk, off + t, none⟩ = some (.int .u16 (Gk t)) := fun t ht => by rw [hG]; exact (hHk t (by omega)).1
                have hf : ∀ t, t < d.size → W1.frozen? ⟨blk, off + t, none⟩ = false := fun t ht => (hHk t (by omega)).2
                have AG : Hid (∀ t, Gk t = dk[t]!) := hG
                have AW : Hid (W1 = (putRow (Value.int .u16) w blk off dk).drewN n) := hw
                clear hG hw hHk
                go_wp2
                go_loopw [10] (fun vi w1 => ∃ (i' n1 : Nat), vi = .int .i64 i' ∧ i ≤ i' ∧ i' ≤ j + 1 ∧ w1 = W1.drewN n1 ∧
                    Hid (Sort.scanUp (fun x => Sort.ltInt x dk[a]!) dk j i' = Sort.scanUp (fun x => Sort.ltInt x dk[a]!) dk j i))
                  (fun vi _ => j + 1 - (intOf vi).toNat)
                case atStart => exact ⟨i, 0, rfl, Nat.le_refl _, hij, rfl, rfl⟩
                case round =>
                  obtain ⟨i', n1, rfl, hii, hij', hw1, hsc⟩ := hrel
                  have hcw : ∀ t, t < d.size → wr.cell? ⟨blk, off + t, none⟩ = some (.int .u16 (Gk t)) := fun t ht => by rw [hw1]; exact hc t ht
                  have HW1 : Hid (wr = W1.drewN n1) := hw1
                  clear hw1
                  by_cases hle : i' ≤ j
                  · go_wp2_with fail
                    go_big_quiet (first | (go_at_call 43; refine Calls.quiet_of_same (cmp_Less_intU _ _ _)))
                    go_wp2
                    ·
                      have ht : Sort.ltInt (Gk i') (Gk a) = true := by assumption
                      go_roundw
                      case rel => exact ⟨i' + 1, n1 + nq, by go_num, by omega, by omega, by rw [HW1.out, World.drewN_drewN], (scanUp_go (fun x => Sort.ltInt x dk[a]!) dk j i' hle (by rw [← AG.out a, ← AG.out i']; exact ht)).symm.trans hsc.out⟩
                      case measure => simp [intOf]; omega
                    ·
                      have ht : Sort.ltInt (Gk i') (Gk a) = false := by assumption
                      have hi2 : Hid (i' = Sort.scanUp (fun x => Sort.ltInt x dk[a]!) dk j i) := (scanUp_end (fun x => Sort.ltInt x dk[a]!) dk j i' (Or.inr (by rw [← AG.out a, ← AG.out i']; exact ht))).symm.trans hsc.out
                      clear ht
                      have hw2 : wr.drewN nq = W1.drewN (n1 + nq) := by rw [HW1.out, World.drewN_drewN]
                      clear hcw HW1 hsc
                      go_loopw [11] (fun vj w2 => ∃ (j' n2 : Nat), vj = .int .i64 j' ∧ j' ≤ j ∧ i' ≤ j' + 1 ∧ w2 = W1.drewN n2 ∧
                          Hid (Sort.scanDown (fun x => !Sort.ltInt x dk[a]!) dk i' j' = Sort.scanDown (fun x => !Sort.ltInt x dk[a]!) dk i' j))
                        (fun vj _ => (intOf vj).toNat)
                      case atStart => exact ⟨j, n1 + nq, rfl, Nat.le_refl _, hij', hw2, rfl⟩
                      case round =>
                        clear hw2
                        obtain ⟨j', n2, rfl, hjj, hij2, hw2, hsd⟩ := hrel
                        have hcw : ∀ t, t < d.size → wr.cell? ⟨blk, off + t, none⟩ = some (.int .u16 (Gk t)) := fun t ht => by rw [hw2]; exact hc t ht
                        have HW2 : Hid (wr = W1.drewN n2) := hw2
                        clear hw2
                        by_cases hle2 : i' ≤ j'
                        · go_wp2_with fail
                          go_big_quiet (first | (go_at_call 43; refine Calls.quiet_of_same (cmp_Less_intU _ _ _)))
                          go_wp2
                          ·
                            have ht : (!Sort.ltInt (Gk j') (Gk a)) = true := by assumption
                            go_roundw
                            case rel => exact ⟨j' - 1, n2 + nq, by go_num, by omega, by omega, by rw [HW2.out, World.drewN_drewN], (scanDown_go (fun x => !Sort.ltInt x dk[a]!) dk i' j' hle2 (by omega) (by rw [← AG.out a, ← AG.out j']; exact ht)).symm.trans hsd.out⟩
                            case measure => simp [intOf]; omega
                          ·
                            have ht : (!Sort.ltInt (Gk j') (Gk a)) = false := by assumption
                            have hj2 : Hid (j' = Sort.scanDown (fun x => !Sort.ltInt x dk[a]!) dk i' j) := (scanDown_end (fun x => !Sort.ltInt x dk[a]!) dk i' j' (Or.inr (by rw [← AG.out a, ← AG.out j']; exact ht))).symm.trans hsd.out
                            clear hcw hsd ht
                            have hw3 : wr.drewN nq = W1.drewN (n2 + nq) := by rw [HW2.out, World.drewN_drewN]
                            generalize wr.drewN nq = W3 at hw3 ⊢
                            have hc3 : ∀ t, t < d.size → W3.cell? ⟨blk, off + t, none⟩ = some (.int .u16 (Gk t)) := fun t ht => by rw [hw3]; exact hc t ht
                            have hf3 : ∀ t, t < d.size → W3.frozen? ⟨blk, off + t, none⟩ = false := fun t ht => by rw [hw3]; exact hf t ht
                            have HW3 : Hid (W3 = W1.drewN (n2 + nq)) := hw3
                            clear hw3
                            obtain ⟨v3, hy3⟩ := cell?_setCell_some (w := W3) (p := ⟨blk, off + i', none⟩) (x := .int .u16 (Gk j')) (q := ⟨blk, off + j', none⟩) (hc3 j' (by omega))
                            have hlt3 := part_scans_lt Sort.ltInt a i j dk (by omega) hi2.out hj2.out hle2
                            go_wp2
                            go_region
                            all_goals go_wp2
                            all_goals go_roundw
                            case rel =>
                              refine ⟨i' + 1, j' - 1, n + (n2 + nq) + 1, Sort.swp dk i' j', by go_num, by go_num, by omega, by omega, by omega, by rw [size_swp]; exact hs, ?_, ?_⟩
                              · rw [HW3.out, AW.out, World.drewN_drewN, AG.out i', AG.out j']
                                exact swap_worldC (Value.int .u16) w blk off dk _ i' j' (by omega) (by omega)
                              · exact (part_go Sort.ltInt a i j dk hi2.out hj2.out (by omega)).symm.trans AE.out
                            case measure => simp [intOf]; omega
                        · go_wp2_with fail
                          go_big_quiet (first | (go_at_call 43; refine Calls.quiet_of_same (cmp_Less_intU _ _ _)))
                          have hj2 : Hid (j' = Sort.scanDown (fun x => !Sort.ltInt x dk[a]!) dk i' j) := (scanDown_end (fun x => !Sort.ltInt x dk[a]!) dk i' j' (Or.inl hle2)).symm.trans hsd.out
                          clear hcw hsd
                          have hw3 : wr.drewN nq = W1.drewN (n2 + nq) := by rw [HW2.out, World.drewN_drewN]
                          generalize wr.drewN nq = W3 at hw3 ⊢
                          have hc3 : ∀ t, t < d.size → W3.cell? ⟨blk, off + t, none⟩ = some (.int .u16 (Gk t)) := fun t ht => by rw [hw3]; exact hc t ht
                          have hf3 : ∀ t, t < d.size → W3.frozen? ⟨blk, off + t, none⟩ = false := fun t ht => by rw [hw3]; exact hf t ht
                          have HW3 : Hid (W3 = W1.drewN (n2 + nq)) := hw3
                          clear hw3
                          obtain ⟨v3, hy3⟩ := cell?_setCell_some (w := W3) (p := ⟨blk, off + j', none⟩) (x := .int .u16 (Gk a)) (q := ⟨blk, off + a, none⟩) (hc3 a (by omega))
                          have hlj : j' < d.size := by omega
                          go_wp2
                          go_region
                          all_goals go_wp2
                          all_goals go_ret2
                          have e : Sort.partition Sort.ltInt d a b pivot = (j', false, Sort.swp dk j' a) := by
                            have e0 := (part_break Sort.ltInt a i j dk hi2.out hj2.out (by omega)).symm.trans AE.out
                            rw [HP.out, ← e0]
                          refine ⟨?_, n + (n2 + nq) + 1, ?_⟩
                          · rw [e]; rfl
                          · rw [e, HW3.out, AW.out, World.drewN_drewN, AG.out a, AG.out j']
                            exact swap_worldC (Value.int .u16) w blk off dk _ j' a (by omega) (by omega)
                  · go_wp2_with fail
                    go_big_quiet (first | (go_at_call 43; refine Calls.quiet_of_same (cmp_Less_intU _ _ _)))
                    go_wp2
                    have hi2 : Hid (i' = Sort.scanUp (fun x => Sort.ltInt x dk[a]!) dk j i) := (scanUp_end (fun x => Sort.ltInt x dk[a]!) dk j i' (Or.inl hle)).symm.trans hsc.out
                    have hw2 : wr.drewN nq = W1.drewN (n1 + nq) := by rw [HW1.out, World.drewN_drewN]
                    clear hcw HW1 hsc
                    go_loopw [11] (fun vj w2 => ∃ (j' n2 : Nat), vj = .int .i64 j' ∧ j' ≤ j ∧ i' ≤ j' + 1 ∧ w2 = W1.drewN n2 ∧
                        Hid (Sort.scanDown (fun x => !Sort.ltInt x dk[a]!) dk i' j' = Sort.scanDown (fun x => !Sort.ltInt x dk[a]!) dk i' j))
                      (fun vj _ => (intOf vj).toNat)
                    case atStart => exact ⟨j, n1 + nq, rfl, Nat.le_refl _, hij', hw2, rfl⟩
                    case round =>
                      clear hw2
                      obtain ⟨j', n2, rfl, hjj, hij2, hw2, hsd⟩ := hrel
                      have hcw : ∀ t, t < d.size → wr.cell? ⟨blk, off + t, none⟩ = some (.int .u16 (Gk t)) := fun t ht => by rw [hw2]; exact hc t ht
                      have HW2 : Hid (wr = W1.drewN n2) := hw2
                      clear hw2
                      by_cases hle2 : i' ≤ j'
                      · exfalso; omega     
                      · go_wp2_with fail
                        go_big_quiet (first | (go_at_call 43; refine Calls.quiet_of_same (cmp_Less_intU _ _ _)))
                        have hj2 : Hid (j' = Sort.scanDown (fun x => !Sort.ltInt x dk[a]!) dk i' j) := (scanDown_end (fun x => !Sort.ltInt x dk[a]!) dk i' j' (Or.inl hle2)).symm.trans hsd.out
                        clear hcw hsd
                        have hw3 : wr.drewN nq = W1.drewN (n2 + nq) := by rw [HW2.out, World.drewN_drewN]
                        generalize wr.drewN nq = W3 at hw3 ⊢
                        have hc3 : ∀ t, t < d.size → W3.cell? ⟨blk, off + t, none⟩ = some (.int .u16 (Gk t)) := fun t ht => by rw [hw3]; exact hc t ht
                        have hf3 : ∀ t, t < d.size → W3.frozen? ⟨blk, off + t, none⟩ = false := fun t ht => by rw [hw3]; exact hf t ht
                        have HW3 : Hid (W3 = W1.drewN (n2 + nq)) := hw3
                        clear hw3
                        obtain ⟨v3, hy3⟩ := cell?_setCell_some (w := W3) (p := ⟨blk, off + j', none⟩) (x := .int .u16 (Gk a)) (q := ⟨blk, off + a, none⟩) (hc3 a (by omega))
                        have hlj : j' < d.size := by omega
                        go_wp2
                        go_region
                        all_goals go_wp2
                        all_goals go_ret2
                        have e : Sort.partition Sort.ltInt d a b pivot = (j', false, Sort.swp dk j' a) := by
                          have e0 := (part_break Sort.ltInt a i j dk hi2.out hj2.out (by omega)).symm.trans AE.out
                          rw [HP.out, ← e0]
                        refine ⟨?_, n + (n2 + nq) + 1, ?_⟩
                        · rw [e]; rfl
                        · rw [e, HW3.out, AW.out, World.drewN_drewN, AG.out a, AG.out j']
                          exact swap_worldC (Value.int .u16) w blk off dk _ j' a (by omega) (by omega)
          · go_wp2_with fail
            go_big_quiet (first | (go_at_call 43; refine Calls.quiet_of_same (cmp_Less_intU _ _ _)))
            have hj2 : Hid (j' = Sort.scanDown (fun x => !Sort.ltInt x dk[a]!) dk i' j) := (scanDown_end (fun x => !Sort.ltInt x dk[a]!) dk i' j' (Or.inl hle2)).symm.trans hsd.out
            clear hcw hsd
            have hw3 : wr.drewN nq = W1.drewN (n2 + nq) := by rw [HW2.out, World.drewN_drewN]
            generalize wr.drewN nq = W3 at hw3 ⊢
            have hc3 : ∀ t, t < d.size → W3.cell? ⟨blk, off + t, none⟩ = some (.int .u16 (Gk t)) := fun t ht => by rw [hw3]; exact hc t ht
            have hf3 : ∀ t, t < d.size → W3.frozen? ⟨blk, off + t, none⟩ = false := fun t ht => by rw [hw3]; exact hf t ht
            have HW3 : Hid (W3 = W1.drewN (n2 + nq)) := hw3
            clear hw3
            obtain ⟨v3, hy3⟩ := cell?_setCell_some (w := W3) (p := ⟨blk, off + j', none⟩) (x := .int .u16 (Gk a)) (q := ⟨blk, off + a, none⟩) (hc3 a (by omega))
            have hlj : j' < d.size := by omega
            go_wp2
            go_region
            all_goals go_wp2
            all_goals go_ret2
            have e : Sort.partition Sort.ltInt d a b pivot = (j', true, Sort.swp dk j' a) := part_first_break Sort.ltInt d a b pivot HI.out HJ.out HDK.out hi2.out hj2.out (by omega)
            refine ⟨?_, n + (n2 + nq) + 1, ?_⟩
            · rw [e]; rfl
            · rw [e, HW3.out, AW.out, World.drewN_drewN, AG.out a, AG.out j']
              exact swap_worldC (Value.int .u16) w blk off dk _ j' a (by omega) (by omega)
    · go_wp2_with fail
      go_big_quiet (first | (go_at_call 43; refine Calls.quiet_of_same (cmp_Less_intU _ _ _)))
      go_wp2
      have hi2 : Hid (i' = Sort.scanUp (fun x => Sort.ltInt x dk[a]!) dk j i) := (scanUp_end (fun x => Sort.ltInt x dk[a]!) dk j i' (Or.inl hle)).symm.trans hsc.out
      have hw2 : wr.drewN nq = W1.drewN (n1 + nq) := by rw [HW1.out, World.drewN_drewN]
      clear hcw HW1 hsc
      go_loopw [11] (fun vj w2 => ∃ (j' n2 : Nat), vj = .int .i64 j' ∧ j' ≤ j ∧ i' ≤ j' + 1 ∧ w2 = W1.drewN n2 ∧
          Hid (Sort.scanDown (fun x => !Sort.ltInt x dk[a]!) dk i' j' = Sort.scanDown (fun x => !Sort.ltInt x dk[a]!) dk i' j))
        (fun vj _ => (intOf vj).toNat)
      case atStart => exact ⟨j, n1 + nq, rfl, Nat.le_refl _, hij', hw2, rfl⟩
      case round =>
        clear hw2
        obtain ⟨j', n2, rfl, hjj, hij2, hw2, hsd⟩ := hrel
        have hcw : ∀ t, t < d.size → wr.cell? ⟨blk, off + t, none⟩ = some (.int .u16 (Gk t)) := fun t ht => by rw [hw2]; exact hc t ht
        have HW2 : Hid (wr = W1.drewN n2) := hw2
        clear hw2
        by_cases hle2 : i' ≤ j'
        · exfalso; omega     
        · go_wp2_with fail
          go_big_quiet (first | (go_at_call 43; refine Calls.quiet_of_same (cmp_Less_intU _ _ _)))
          have hj2 : Hid (j' = Sort.scanDown (fun x => !Sort.ltInt x dk[a]!) dk i' j) := (scanDown_end (fun x => !Sort.ltInt x dk[a]!) dk i' j' (Or.inl hle2)).symm.trans hsd.out
          clear hcw hsd
          have hw3 : wr.drewN nq = W1.drewN (n2 + nq) := by rw [HW2.out, World.drewN_drewN]
          generalize wr.drewN nq = W3 at hw3 ⊢
          have hc3 : ∀ t, t < d.size → W3.cell? ⟨blk, off + t, none⟩ = some (.int .u16 (Gk t)) := fun t ht => by rw [hw3]; exact hc t ht
          have hf3 : ∀ t, t < d.size → W3.frozen? ⟨blk, off + t, none⟩ = false := fun t ht => by rw [hw3]; exact hf t ht
          have HW3 : Hid (W3 = W1.drewN (n2 + nq)) := hw3
          clear hw3
          obtain ⟨v3, hy3⟩ := cell?_setCell_some (w := W3) (p := ⟨blk, off + j', none⟩) (x := .int .u16 (Gk a)) (q := ⟨blk, off + a, none⟩) (hc3 a (by omega))
          have hlj : j' < d.size := by omega
          go_wp2
          go_region
          all_goals go_wp2
          all_goals go_ret2
          have e : Sort.partition Sort.ltInt d a b pivot = (j', true, Sort.swp dk j' a) := part_first_break Sort.ltInt d a b pivot HI.out HJ.out HDK.out hi2.out hj2.out (by omega)
          refine ⟨?_, n + (n2 + nq) + 1, ?_⟩
          · rw [e]; rfl
          · rw [e, HW3.out, AW.out, World.drewN_drewN, AG.out a, AG.out j']
            exact swap_worldC (Value.int .u16) w blk off dk _ j' a (by omega) (by omega)

theorem partitionOrdered_intU (blk off cap a b pivot : Nat) (d : Array Int) (w : World) (hH : Holds (Value.int .u16) w blk off d) (hap : a ≤ pivot) (hpb : pivot < b) (hb : b ≤ d.size) (hsz : d.size < 4611686018427387904) :
    Calls Yba.prog 45 #[.slice (some ⟨blk, off, none⟩) d.size cap, .int .i64 a, .int .i64 b, .int .i64 pivot] w fun e w' =>
      e = .returned (.tuple #[.int .i64 (Sort.partition Sort.ltInt d a b pivot).1, .bool (Sort.partition Sort.ltInt d a b pivot).2.1]) ∧ ∃ n, w' = putRow (Value.int .u16) (Sort.ahead w n) blk off (Sort.partition Sort.ltInt d a b pivot).2.2 :=
  (partition_intU blk off cap a b pivot d w hH hap hpb hb hsz).mono fun _ _ ⟨he, n, hw⟩ => ⟨he, n, hw⟩

end Go.Proofs.Ybulkamjs
