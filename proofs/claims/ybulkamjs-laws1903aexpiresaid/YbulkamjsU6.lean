/- A function of slices.Sort at uint16: the walk that the kit has at int, turned to this program by a small program (tools/reaim.py). -/
import Derived.Test.YbulkamjsU0
import Derived.Sort.WalkA6
namespace Go.Proofs.Ybulkamjs
open Go.RowKit Go.Sort Go.Proofs
set_option linter.unusedVariables false
set_option linter.unusedSimpArgs false
set_option maxHeartbeats 1600000 in
set_option maxRecDepth 100000 in
theorem partialInsertionSort_intU (blk off cap a b : Nat) (d : Array Int) (w : World) (hH : Holds (Value.int .u16) w blk off d) (hab : a < b) (hb : b ≤ d.size) (hsz : d.size < 4611686018427387904) :
    Calls Yba.prog 42 #[.slice (some ⟨blk, off, none⟩) d.size cap, .int .i64 a, .int .i64 b] w fun e w' =>
      e = .returned (.bool (Sort.partialInsertionSort ltInt d a b).2) ∧ ∃ n, w' = putRow (Value.int .u16) (Sort.ahead w n) blk off (Sort.partialInsertionSort ltInt d a b).1 := by
  have HH : Hid (Holds (Value.int .u16) w blk off d) := hH
  have HST : Hid (w = putRow (Value.int .u16) (Sort.ahead w 0) blk off d) := (putRow_self _ _ _ _ _ hH).symm
  clear hH
  go_enter Yba.func42, Yba.ntmps42
  go_wp2
  go_loopw [7, 8] (fun vi vs wr => ∃ (i s n : Nat) (dk : Array Int), vi = .int .i64 i ∧ vs = .int .i64 s ∧ s ≤ 5 ∧ a < i ∧ i ≤ b ∧ dk.size = d.size ∧ wr = putRow (Value.int .u16) (Sort.ahead w n) blk off dk ∧
      partialIns ltInt a b (5 - s) i dk = partialIns ltInt a b 5 (a + 1) d) (fun _ vs _ => 5 - (intOf vs).toNat)
  case atStart => exact ⟨a + 1, 0, 0, d, by go_num, rfl, by omega, by omega, by omega, rfl, HST.out, rfl⟩
  case round =>
    obtain ⟨i, s, n, dk, rfl, rfl, hs5, hai, hib, hsk, hwr, hO⟩ := hrel
    have HO : Hid (partialIns ltInt a b (5 - s) i dk = partialIns ltInt a b 5 (a + 1) d) := hO
    clear hO
    go_wp2
    ·
      have hs : s < 5 := by omega
      go_loopw [7] (fun vi wr2 => ∃ (k m : Nat), vi = .int .i64 k ∧ i ≤ k ∧ k ≤ b ∧ wr2 = putRow (Value.int .u16) (Sort.ahead w m) blk off dk ∧ scanSorted ltInt dk b k = scanSorted ltInt dk b i) (fun vi _ => b - (intOf vi).toNat)
      case atStart => exact ⟨i, n, rfl, Nat.le_refl _, hib, rfl, rfl⟩
      case round =>
        obtain ⟨k, m, rfl, hik, hkb, hw2, hS⟩ := hrel
        obtain ⟨G, hG⟩ : ∃ G : Nat → Int, ∀ t, G t = dk[t]! := ⟨fun t => dk[t]!, fun _ => rfl⟩
        have hcw : ∀ t, t < d.size → wr.cell? ⟨blk, off + t, none⟩ = some (.int .u16 (G t)) := fun t ht => by
          rw [hw2, hG]; exact cell?_putRow _ _ _ _ d dk (holds_ahead _ _ _ _ _ _ HH.out) hsk t (by omega)
        have hfw : ∀ t, t < d.size → wr.frozen? ⟨blk, off + t, none⟩ = false := fun t ht => by
          rw [hw2, frozen?_putRow]; exact ((holds_ahead _ _ m _ _ _ HH.out) t ht).2
        have HW : Hid (wr = putRow (Value.int .u16) (Sort.ahead w m) blk off dk) := hw2
        have HG : Hid (∀ t, G t = dk[t]!) := hG
        have HS : Hid (scanSorted ltInt dk b k = scanSorted ltInt dk b i) := hS
        clear hw2 hG hS
        go_wp2
        by_cases hkb' : k < b
        · go_quiet (first | (go_at_call 43; refine Calls.quiet_of_same (cmp_Less_intU _ _ _)))
          go_wp2
          all_goals first
            | (at_end
               have hl : ltInt (G k) (G (k - 1)) = false := by
                 have h : (!ltInt (G k) (G (k - 1))) = true := by assumption
                 simpa using h
               go_roundw
               case rel => exact ⟨k + 1, m + nq, by go_num, by omega, by omega, by rw [HW.out]; exact putRow_drewN _ _ _ _ _ _ _, by rw [← HS.out, scanSorted_go ltInt dk b k hkb' (by rw [← HG.out, ← HG.out]; exact hl)]⟩
               case measure => simp [intOf]; omega)
            | (have hl : ltInt (G k) (G (k - 1)) = true := by
                 have h : (!ltInt (G k) (G (k - 1))) = false := by assumption
                 simpa using h
               have HK : Hid (scanSorted ltInt dk b i = k) := by
                 show scanSorted ltInt dk b i = k
                 rw [← HS.out, scanSorted_stop ltInt dk b k (Or.inr (by rw [← HG.out, ← HG.out]; exact hl))]
               first
                 | (at_ret
                    have hv : Sort.partialInsertionSort ltInt d a b = (dk, false) := by
                      unfold Sort.partialInsertionSort
                      rw [← HO.out, pi_short ltInt a b s i dk hs (by rw [HK.out]; omega) (by omega)]
                    rw [hv]
                    go_ret
                    exact ⟨rfl, m + nq, by rw [HW.out]; exact putRow_drewN _ _ _ _ _ _ _⟩)
                 | (at_region 11
                    have h50 : ¬ b - a < 50 := by omega
                    go_region
                    have hsw : ((wr.drewN (nq + 1)).setCell ⟨blk, off + k, none⟩ (.int .u16 (G (k - 1)))).setCell ⟨blk, off + (k - 1), none⟩ (.int .u16 (G k)) = putRow (Value.int .u16) (Sort.ahead w (m + (nq + 1))) blk off (swp dk k (k - 1)) := by
                      rw [HW.out, HG.out, HG.out]
                      exact swap_worldA _ w m (nq + 1) blk off dk k (k - 1) (by omega) (by omega)
                    have hs1 : (swp dk k (k - 1)).size = d.size := by rw [size_swp]; exact hsk
                    go_wp2
                    all_goals first
                      | (at_loop
                         have hka : k - a ≥ 2 := by omega
                         go_loopw [9] (fun vj wr2 => ∃ (j m2 : Nat) (dj : Array Int), vj = .int .i64 j ∧ j ≤ k - 1 ∧ dj.size = d.size ∧ wr2 = putRow (Value.int .u16) (Sort.ahead w m2) blk off dj ∧
                             shiftDown ltInt j dj = shiftDown ltInt (k - 1) (swp dk k (k - 1))) (fun vj _ => (intOf vj).toNat)
                         case atStart => exact ⟨k - 1, _, (swp dk k (k - 1)), by congr 1; omega, Nat.le_refl _, hs1, rfl, rfl⟩
                         case round =>
                           obtain ⟨j, m2, dj, rfl, hjk, hsj, hw2, hDn⟩ := hrel
                           obtain ⟨G, hG⟩ : ∃ G : Nat → Int, ∀ t, G t = dj[t]! := ⟨fun t => dj[t]!, fun _ => rfl⟩
                           have hcw : ∀ t, t < d.size → wr.cell? ⟨blk, off + t, none⟩ = some (.int .u16 (G t)) := fun t ht => by
                             rw [hw2, hG]; exact cell?_putRow _ _ _ _ d dj (holds_ahead _ _ _ _ _ _ HH.out) hsj t (by omega)
                           have hfw : ∀ t, t < d.size → wr.frozen? ⟨blk, off + t, none⟩ = false := fun t ht => by
                             rw [hw2, frozen?_putRow]; exact ((holds_ahead _ _ m2 _ _ _ HH.out) t ht).2
                           have HW : Hid (wr = putRow (Value.int .u16) (Sort.ahead w m2) blk off dj) := hw2
                           have HG : Hid (∀ t, G t = dj[t]!) := hG
                           have HDn : Hid (shiftDown ltInt j dj = shiftDown ltInt (k - 1) (swp dk k (k - 1))) := hDn
                           clear hw2 hG hDn hsw
                           go_wp2
                           all_goals first
                             | (at_region 16
                                go_quiet (first | (go_at_call 43; refine Calls.quiet_of_same (cmp_Less_intU _ _ _)))
                                go_wp2
                                all_goals first
                                  | (at_region 17
                                     have hl : ltInt (G j) (G (j - 1)) = true := by
                                       have h : (!ltInt (G j) (G (j - 1))) = false := by assumption
                                       simpa using h
                                     go_region
                                     all_goals go_wp2
                                     go_roundw
                                     case rel =>
                                       refine ⟨j - 1, m2 + (nq + 1), swp dj j (j - 1), by congr 1; omega, by omega, by rw [size_swp]; exact hsj, ?_, ?_⟩
                                       · rw [HW.out, HG.out, HG.out]
                                         exact swap_worldA _ w m2 (nq + 1) blk off dj j (j - 1) (by omega) (by omega)
                                       · rw [← HDn.out, shiftDown_go ltInt j dj (by omega) (by rw [← HG.out, ← HG.out]; exact hl)]
                                     case measure => simp [intOf]; omega)
                                  | (-- break
                                     have hl : ltInt (G j) (G (j - 1)) = false := by
                                       have h : (!ltInt (G j) (G (j - 1))) = true := by assumption
                                       simpa using h
                                     have HD : Hid (fixDown ltInt a k (swp dk k (k - 1)) = dj) := by
                                       show fixDown ltInt a k (swp dk k (k - 1)) = dj
                                       unfold fixDown; rw [if_pos hka, ← HDn.out, shiftDown_stop ltInt j dj (Or.inr (by rw [← HG.out, ← HG.out]; exact hl))]
                                     first
                                       | (at_end
                                          go_roundw
                                          case rel =>
                                            refine ⟨k, s + 1, _, dj, rfl, by go_num, by omega, by omega, by omega, hsj, (by first | rfl | exact HW.out | (rw [HW.out]; exact putRow_drewN _ _ _ _ _ _ _)), ?_⟩
                                            rw [← HO.out, pi_go ltInt a b s i k dk hs HK.out (by omega) (by omega), HD.out, show fixUp ltInt b k dj = dj from by unfold fixUp; rw [if_neg (by omega)]]
                                          case measure => simp [intOf]; omega)
                                       | (at_loop
                                          go_loopw [10] (fun vj wr2 => ∃ (j m3 : Nat) (du : Array Int), vj = .int .i64 j ∧ k + 1 ≤ j ∧ j ≤ b ∧ du.size = d.size ∧ wr2 = putRow (Value.int .u16) (Sort.ahead w m3) blk off du ∧
                                              shiftUp ltInt b j du = shiftUp ltInt b (k + 1) dj) (fun vj _ => b - (intOf vj).toNat)
                                          case atStart => exact ⟨k + 1, _, dj, by go_num, Nat.le_refl _, by omega, hsj, (by first | rfl | exact HW.out | (rw [HW.out]; exact putRow_drewN _ _ _ _ _ _ _)), rfl⟩
                                          case round =>
                                            obtain ⟨j, m3, du, rfl, hkj, hjb, hsu, hw3, hU⟩ := hrel
                                            obtain ⟨G, hG⟩ : ∃ G : Nat → Int, ∀ t, G t = du[t]! := ⟨fun t => du[t]!, fun _ => rfl⟩
                                            have hcw : ∀ t, t < d.size → wr.cell? ⟨blk, off + t, none⟩ = some (.int .u16 (G t)) := fun t ht => by
                                              rw [hw3, hG]; exact cell?_putRow _ _ _ _ d du (holds_ahead _ _ _ _ _ _ HH.out) hsu t (by omega)
                                            have hfw : ∀ t, t < d.size → wr.frozen? ⟨blk, off + t, none⟩ = false := fun t ht => by
                                              rw [hw3, frozen?_putRow]; exact ((holds_ahead _ _ m3 _ _ _ HH.out) t ht).2
                                            have HW : Hid (wr = putRow (Value.int .u16) (Sort.ahead w m3) blk off du) := hw3
                                            have HG : Hid (∀ t, G t = du[t]!) := hG
                                            have HU : Hid (shiftUp ltInt b j du = shiftUp ltInt b (k + 1) dj) := hU
                                            clear hw3 hG hU
                                            go_wp2
                                            all_goals first
                                              | (at_region 22
                                                 go_quiet (first | (go_at_call 43; refine Calls.quiet_of_same (cmp_Less_intU _ _ _)))
                                                 go_wp2
                                                 all_goals first
                                                   | (at_region 23
                                                      have hl : ltInt (G j) (G (j - 1)) = true := by
                                                        have h : (!ltInt (G j) (G (j - 1))) = false := by assumption
                                                        simpa using h
                                                      go_region
                                                      all_goals go_wp2
                                                      go_roundw
                                                      case rel =>
                                                        refine ⟨j + 1, m3 + (nq + 1), swp du j (j - 1), by go_num, by omega, by omega, by rw [size_swp]; exact hsu, ?_, ?_⟩
                                                        · rw [HW.out, HG.out, HG.out]
                                                          exact swap_worldA _ w m3 (nq + 1) blk off du j (j - 1) (by omega) (by omega)
                                                        · rw [← HU.out, shiftUp_go ltInt b j du (by omega) (by rw [← HG.out, ← HG.out]; exact hl)]
                                                      case measure => simp [intOf]; omega)
                                                   | (at_end
                                                      have hl : ltInt (G j) (G (j - 1)) = false := by
                                                        have h : (!ltInt (G j) (G (j - 1))) = true := by assumption
                                                        simpa using h
                                                      go_roundw
                                                      case rel =>
                                                        refine ⟨k, s + 1, _, du, rfl, by go_num, by omega, by omega, by omega, hsu, (by first | rfl | exact HW.out | (rw [HW.out]; exact putRow_drewN _ _ _ _ _ _ _)), ?_⟩
                                                        rw [← HO.out, pi_go ltInt a b s i k dk hs HK.out (by omega) (by omega), HD.out, show fixUp ltInt b k dj = du from by unfold fixUp; rw [if_pos (by omega), ← HU.out, shiftUp_stop ltInt b j du (Or.inr (by rw [← HG.out, ← HG.out]; exact hl))]]
                                                      case measure => simp [intOf]; omega))
                                              | (at_end
                                                 go_roundw
                                                 case rel =>
                                                   refine ⟨k, s + 1, _, du, rfl, by go_num, by omega, by omega, by omega, hsu, (by first | rfl | exact HW.out | (rw [HW.out]; exact putRow_drewN _ _ _ _ _ _ _)), ?_⟩
                                                   rw [← HO.out, pi_go ltInt a b s i k dk hs HK.out (by omega) (by omega), HD.out, show fixUp ltInt b k dj = du from by unfold fixUp; rw [if_pos (by omega), ← HU.out, shiftUp_stop ltInt b j du (Or.inl (by omega))]]
                                                 case measure => simp [intOf]; omega))))
                             | (-- j < 1
                                have HD : Hid (fixDown ltInt a k (swp dk k (k - 1)) = dj) := by
                                  show fixDown ltInt a k (swp dk k (k - 1)) = dj
                                  unfold fixDown; rw [if_pos hka, ← HDn.out, shiftDown_stop ltInt j dj (Or.inl (by omega))]
                                first
                                  | (at_end
                                     go_roundw
                                     case rel =>
                                       refine ⟨k, s + 1, _, dj, rfl, by go_num, by omega, by omega, by omega, hsj, (by first | rfl | exact HW.out | (rw [HW.out]; exact putRow_drewN _ _ _ _ _ _ _)), ?_⟩
                                       rw [← HO.out, pi_go ltInt a b s i k dk hs HK.out (by omega) (by omega), HD.out, show fixUp ltInt b k dj = dj from by unfold fixUp; rw [if_neg (by omega)]]
                                     case measure => simp [intOf]; omega)
                                  | (at_loop
                                     go_loopw [10] (fun vj wr2 => ∃ (j m3 : Nat) (du : Array Int), vj = .int .i64 j ∧ k + 1 ≤ j ∧ j ≤ b ∧ du.size = d.size ∧ wr2 = putRow (Value.int .u16) (Sort.ahead w m3) blk off du ∧
                                         shiftUp ltInt b j du = shiftUp ltInt b (k + 1) dj) (fun vj _ => b - (intOf vj).toNat)
                                     case atStart => exact ⟨k + 1, _, dj, by go_num, Nat.le_refl _, by omega, hsj, (by first | rfl | exact HW.out | (rw [HW.out]; exact putRow_drewN _ _ _ _ _ _ _)), rfl⟩
                                     case round =>
                                       obtain ⟨j, m3, du, rfl, hkj, hjb, hsu, hw3, hU⟩ := hrel
                                       obtain ⟨G, hG⟩ : ∃ G : Nat → Int, ∀ t, G t = du[t]! := ⟨fun t => du[t]!, fun _ => rfl⟩
                                       have hcw : ∀ t, t < d.size → wr.cell? ⟨blk, off + t, none⟩ = some (.int .u16 (G t)) := fun t ht => by
                                         rw [hw3, hG]; exact cell?_putRow _ _ _ _ d du (holds_ahead _ _ _ _ _ _ HH.out) hsu t (by omega)
                                       have hfw : ∀ t, t < d.size → wr.frozen? ⟨blk, off + t, none⟩ = false := fun t ht => by
                                         rw [hw3, frozen?_putRow]; exact ((holds_ahead _ _ m3 _ _ _ HH.out) t ht).2
                                       have HW : Hid (wr = putRow (Value.int .u16) (Sort.ahead w m3) blk off du) := hw3
                                       have HG : Hid (∀ t, G t = du[t]!) := hG
                                       have HU : Hid (shiftUp ltInt b j du = shiftUp ltInt b (k + 1) dj) := hU
                                       clear hw3 hG hU
                                       go_wp2
                                       all_goals first
                                         | (at_region 22
                                            go_quiet (first | (go_at_call 43; refine Calls.quiet_of_same (cmp_Less_intU _ _ _)))
                                            go_wp2
                                            all_goals first
                                              | (at_region 23
                                                 have hl : ltInt (G j) (G (j - 1)) = true := by
                                                   have h : (!ltInt (G j) (G (j - 1))) = false := by assumption
                                                   simpa using h
                                                 go_region
                                                 all_goals go_wp2
                                                 go_roundw
                                                 case rel =>
                                                   refine ⟨j + 1, m3 + (nq + 1), swp du j (j - 1), by go_num, by omega, by omega, by rw [size_swp]; exact hsu, ?_, ?_⟩
                                                   · rw [HW.out, HG.out, HG.out]
                                                     exact swap_worldA _ w m3 (nq + 1) blk off du j (j - 1) (by omega) (by omega)
                                                   · rw [← HU.out, shiftUp_go ltInt b j du (by omega) (by rw [← HG.out, ← HG.out]; exact hl)]
                                                 case measure => simp [intOf]; omega)
                                              | (at_end
                                                 have hl : ltInt (G j) (G (j - 1)) = false := by
                                                   have h : (!ltInt (G j) (G (j - 1))) = true := by assumption
                                                   simpa using h
                                                 go_roundw
                                                 case rel =>
                                                   refine ⟨k, s + 1, _, du, rfl, by go_num, by omega, by omega, by omega, hsu, (by first | rfl | exact HW.out | (rw [HW.out]; exact putRow_drewN _ _ _ _ _ _ _)), ?_⟩
                                                   rw [← HO.out, pi_go ltInt a b s i k dk hs HK.out (by omega) (by omega), HD.out, show fixUp ltInt b k dj = du from by unfold fixUp; rw [if_pos (by omega), ← HU.out, shiftUp_stop ltInt b j du (Or.inr (by rw [← HG.out, ← HG.out]; exact hl))]]
                                                 case measure => simp [intOf]; omega))
                                         | (at_end
                                            go_roundw
                                            case rel =>
                                              refine ⟨k, s + 1, _, du, rfl, by go_num, by omega, by omega, by omega, hsu, (by first | rfl | exact HW.out | (rw [HW.out]; exact putRow_drewN _ _ _ _ _ _ _)), ?_⟩
                                              rw [← HO.out, pi_go ltInt a b s i k dk hs HK.out (by omega) (by omega), HD.out, show fixUp ltInt b k dj = du from by unfold fixUp; rw [if_pos (by omega), ← HU.out, shiftUp_stop ltInt b j du (Or.inl (by omega))]]
                                            case measure => simp [intOf]; omega))))
                      | (-- i - a < 2
                         have HD : Hid (fixDown ltInt a k (swp dk k (k - 1)) = (swp dk k (k - 1))) := by
                           show fixDown ltInt a k (swp dk k (k - 1)) = (swp dk k (k - 1))
                           unfold fixDown; rw [if_neg (by omega)]
                         first
                           | (at_end
                              go_roundw
                              case rel =>
                                refine ⟨k, s + 1, _, (swp dk k (k - 1)), rfl, by go_num, by omega, by omega, by omega, hs1, (by first | rfl | exact HW.out | (rw [HW.out]; exact putRow_drewN _ _ _ _ _ _ _)), ?_⟩
                                rw [← HO.out, pi_go ltInt a b s i k dk hs HK.out (by omega) (by omega), HD.out, show fixUp ltInt b k (swp dk k (k - 1)) = (swp dk k (k - 1)) from by unfold fixUp; rw [if_neg (by omega)]]
                              case measure => simp [intOf]; omega)
                           | (at_loop
                              go_loopw [10] (fun vj wr2 => ∃ (j m3 : Nat) (du : Array Int), vj = .int .i64 j ∧ k + 1 ≤ j ∧ j ≤ b ∧ du.size = d.size ∧ wr2 = putRow (Value.int .u16) (Sort.ahead w m3) blk off du ∧
                                  shiftUp ltInt b j du = shiftUp ltInt b (k + 1) (swp dk k (k - 1))) (fun vj _ => b - (intOf vj).toNat)
                              case atStart => exact ⟨k + 1, _, (swp dk k (k - 1)), by go_num, Nat.le_refl _, by omega, hs1, (by first | rfl | exact HW.out | (rw [HW.out]; exact putRow_drewN _ _ _ _ _ _ _)), rfl⟩
                              case round =>
                                obtain ⟨j, m3, du, rfl, hkj, hjb, hsu, hw3, hU⟩ := hrel
                                obtain ⟨G, hG⟩ : ∃ G : Nat → Int, ∀ t, G t = du[t]! := ⟨fun t => du[t]!, fun _ => rfl⟩
                                have hcw : ∀ t, t < d.size → wr.cell? ⟨blk, off + t, none⟩ = some (.int .u16 (G t)) := fun t ht => by
                                  rw [hw3, hG]; exact cell?_putRow _ _ _ _ d du (holds_ahead _ _ _ _ _ _ HH.out) hsu t (by omega)
                                have hfw : ∀ t, t < d.size → wr.frozen? ⟨blk, off + t, none⟩ = false := fun t ht => by
                                  rw [hw3, frozen?_putRow]; exact ((holds_ahead _ _ m3 _ _ _ HH.out) t ht).2
                                have HW : Hid (wr = putRow (Value.int .u16) (Sort.ahead w m3) blk off du) := hw3
                                have HG : Hid (∀ t, G t = du[t]!) := hG
                                have HU : Hid (shiftUp ltInt b j du = shiftUp ltInt b (k + 1) (swp dk k (k - 1))) := hU
                                clear hw3 hG hU
                                go_wp2
                                all_goals first
                                  | (at_region 22
                                     go_quiet (first | (go_at_call 43; refine Calls.quiet_of_same (cmp_Less_intU _ _ _)))
                                     go_wp2
                                     all_goals first
                                       | (at_region 23
                                          have hl : ltInt (G j) (G (j - 1)) = true := by
                                            have h : (!ltInt (G j) (G (j - 1))) = false := by assumption
                                            simpa using h
                                          go_region
                                          all_goals go_wp2
                                          go_roundw
                                          case rel =>
                                            refine ⟨j + 1, m3 + (nq + 1), swp du j (j - 1), by go_num, by omega, by omega, by rw [size_swp]; exact hsu, ?_, ?_⟩
                                            · rw [HW.out, HG.out, HG.out]
                                              exact swap_worldA _ w m3 (nq + 1) blk off du j (j - 1) (by omega) (by omega)
                                            · rw [← HU.out, shiftUp_go ltInt b j du (by omega) (by rw [← HG.out, ← HG.out]; exact hl)]
                                          case measure => simp [intOf]; omega)
                                       | (at_end
                                          have hl : ltInt (G j) (G (j - 1)) = false := by
                                            have h : (!ltInt (G j) (G (j - 1))) = true := by assumption
                                            simpa using h
                                          go_roundw
                                          case rel =>
                                            refine ⟨k, s + 1, _, du, rfl, by go_num, by omega, by omega, by omega, hsu, (by first | rfl | exact HW.out | (rw [HW.out]; exact putRow_drewN _ _ _ _ _ _ _)), ?_⟩
                                            rw [← HO.out, pi_go ltInt a b s i k dk hs HK.out (by omega) (by omega), HD.out, show fixUp ltInt b k (swp dk k (k - 1)) = du from by unfold fixUp; rw [if_pos (by omega), ← HU.out, shiftUp_stop ltInt b j du (Or.inr (by rw [← HG.out, ← HG.out]; exact hl))]]
                                          case measure => simp [intOf]; omega))
                                  | (at_end
                                     go_roundw
                                     case rel =>
                                       refine ⟨k, s + 1, _, du, rfl, by go_num, by omega, by omega, by omega, hsu, (by first | rfl | exact HW.out | (rw [HW.out]; exact putRow_drewN _ _ _ _ _ _ _)), ?_⟩
                                       rw [← HO.out, pi_go ltInt a b s i k dk hs HK.out (by omega) (by omega), HD.out, show fixUp ltInt b k (swp dk k (k - 1)) = du from by unfold fixUp; rw [if_pos (by omega), ← HU.out, shiftUp_stop ltInt b j du (Or.inl (by omega))]]
                                     case measure => simp [intOf]; omega)))))
        ·
          go_quiet (first | (go_at_call 43; refine Calls.quiet_of_same (cmp_Less_intU _ _ _)))
          go_wp2
          obtain rfl : k = b := by omega
          have hv : Sort.partialInsertionSort ltInt d a k = (dk, true) := by
            unfold Sort.partialInsertionSort
            rw [← HO.out, pi_true ltInt a k s i dk hs (by rw [← HS.out, scanSorted_stop ltInt dk k k (Or.inl (by omega))])]
          rw [hv]
          go_ret
          exact ⟨rfl, m + nq, by rw [HW.out]; exact putRow_drewN _ _ _ _ _ _ _⟩
    ·
      obtain rfl : s = 5 := by omega
      have hv : Sort.partialInsertionSort ltInt d a b = (dk, false) := by
        unfold Sort.partialInsertionSort
        rw [← HO.out, pi_end]
      rw [hv]
      go_ret
      exact ⟨rfl, n, rfl⟩

end Go.Proofs.Ybulkamjs
