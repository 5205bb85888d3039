/- A function of slices.Sort at uint16: the walk that the kit has at int, turned to this program by a small program (tools/reaim.py). -/
import Derived.Test.YbulkamjsProg
import Derived.Sort.WalkA
namespace Go.Proofs.Ybulkamjs
open Go.RowKit Go.Sort Go.Proofs
set_option linter.unusedVariables false
set_option linter.unusedSimpArgs false
abbrev encU : Int → Value := fun x => Value.int .u16 x
set_option maxHeartbeats 1000000 in
theorem cmp_isNaN_intU (x : Int) (w : World) : Calls Yba.prog 59 #[.int .u16 x] w fun e w' => e = .returned (.bool false) ∧ w' = w := by
  go_enter Yba.func59, Yba.ntmps59
  go_wp2
  go_ret
  exact ⟨by simp, rfl⟩

set_option maxHeartbeats 1000000 in
theorem cmp_Less_intU (x y : Int) (w : World) : Calls Yba.prog 43 #[.int .u16 x, .int .u16 y] w fun e w' => e = .returned (.bool (Sort.ltInt x y)) ∧ w' = w := by
  go_enter Yba.func43, Yba.ntmps43
  go_wp2_with (go_at_call 59; refine (cmp_isNaN_intU _ _).mono ?_; rintro e w' ⟨rfl, rfl⟩)
  go_ret
  exact ⟨rfl, rfl⟩

theorem insertionSort_intU (blk off cap a b : Nat) (d : Array Int) (w : World) (hH : Holds (Value.int .u16) w blk off d) (hab : a ≤ b) (hb : b ≤ d.size) (hsz : d.size < 4611686018427387904) :
    Calls Yba.prog 37 #[.slice (some ⟨blk, off, none⟩) d.size cap, .int .i64 a, .int .i64 b] w fun e w' =>
      e = .returned (.tuple #[]) ∧ ∃ n, w' = putRow (Value.int .u16) (Sort.ahead w n) blk off (Sort.insertionSort ltInt d a b) := by
  go_enter Yba.func37, Yba.ntmps37
  go_wp2
  go_loopw [6] (fun vi wr => ∃ (i n : Nat) (dk : Array Int), vi = .int .i64 i ∧ a < i ∧ i ≤ b + 1 ∧ dk.size = d.size ∧ wr = putRow (Value.int .u16) (Sort.ahead w n) blk off dk ∧
      insOuter ltInt a b i dk = insOuter ltInt a b (a + 1) d) (fun vi _ => b + 1 - (intOf vi).toNat)
  case atStart => exact ⟨a + 1, 0, d, by go_num, by omega, by omega, rfl, (putRow_self _ _ _ _ _ hH).symm, rfl⟩
  case round =>
    obtain ⟨i, n, dk, rfl, hai, hib, hsk, hwr, hO⟩ := hrel
    have HO : Hid (insOuter ltInt a b i dk = insOuter ltInt a b (a + 1) d) := hO
    clear hO
    go_wp2
    ·
      go_loopw [7] (fun vj wr2 => ∃ (j m : Nat) (dj : Array Int), vj = .int .i64 j ∧ a ≤ j ∧ j ≤ i ∧ dj.size = d.size ∧ wr2 = putRow (Value.int .u16) (Sort.ahead w m) blk off dj ∧
          insInner ltInt a j dj = insInner ltInt a i dk) (fun vj _ => (intOf vj).toNat)
      case atStart => exact ⟨i, n, dk, rfl, by omega, Nat.le_refl _, hsk, rfl, rfl⟩
      case round =>
        obtain ⟨j, m, dj, rfl, haj, hji, hsj, hw2, hI⟩ := hrel
        have hlt : i < b := by assumption
        obtain ⟨G, hG⟩ : ∃ G : Nat → Int, ∀ t, G t = dj[t]! := ⟨fun t => dj[t]!, fun _ => rfl⟩
        have hcw : ∀ t, t < d.size → wr.cell? ⟨blk, off + t, none⟩ = some (.int .u16 (G t)) := fun t ht => by
          rw [hw2, hG]; exact cell?_putRow _ _ _ _ d dj (holds_ahead _ _ _ _ _ _ hH) hsj t (by omega)
        have hfw : ∀ t, t < d.size → wr.frozen? ⟨blk, off + t, none⟩ = false := fun t ht => by
          rw [hw2, frozen?_putRow]; exact ((holds_ahead _ _ m _ _ _ hH) t ht).2
        have HW : Hid (wr = putRow (Value.int .u16) (Sort.ahead w m) blk off dj) := hw2
        have HG : Hid (∀ t, G t = dj[t]!) := hG
        have HI : Hid (insInner ltInt a j dj = insInner ltInt a i dk) := hI
        clear hw2 hG hI hH
        have out : (j ≤ a ∨ ltInt dj[j]! dj[j - 1]! = false) → ∀ q, ∃ i' n' dk', Value.int .i64 ((i : Int) + 1) = .int .i64 (i' : Nat) ∧ a < i' ∧ i' ≤ b + 1 ∧ dk'.size = d.size ∧
            wr.drewN q = putRow (Value.int .u16) (Sort.ahead w n') blk off dk' ∧ insOuter ltInt a b i' dk' = insOuter ltInt a b (a + 1) d := fun hs q =>
          ⟨i + 1, m + q, dj, by go_num, by omega, by omega, hsj, by rw [HW.out]; exact putRow_drewN _ _ _ _ _ _ _,
            by rw [← HO.out, insOuter_go _ _ _ _ _ hlt, ← HI.out, insInner_stop _ _ _ _ hs]⟩
        have OUT : Hid _ := out
        clear out
        go_wp2
        by_cases hja : a < j
        · go_quiet (first | (go_at_call 43; refine Calls.quiet_of_same (cmp_Less_intU _ _ _)))
          go_wp2
          ·
            have hl : ltInt (G j) (G (j - 1)) = true := by assumption
            go_region
            all_goals go_wp2
            go_roundw
            case rel =>
              refine ⟨j - 1, m + (nq + 1), swp dj j (j - 1), by congr 1; omega, by omega, by omega, by rw [size_swp]; exact hsj, ?_, ?_⟩
              · rw [HW.out, HG.out, HG.out]
                exact swap_worldA _ w m (nq + 1) blk off dj j (j - 1) (by omega) (by omega)
              · rw [← HI.out, insInner_go ltInt a j dj hja (by rw [← HG.out, ← HG.out]; exact hl)]
            case measure => simp [intOf]; omega
          ·
            have hl : ltInt (G j) (G (j - 1)) = false := by assumption
            go_roundw
            case rel => exact OUT.out (Or.inr (by rw [← HG.out, ← HG.out]; exact hl)) nq
            case measure => simp [intOf]; omega
        · go_quiet (first | (go_at_call 43; refine Calls.quiet_of_same (cmp_Less_intU _ _ _)))
          go_wp2
          go_roundw
          case rel => exact OUT.out (Or.inl (by omega)) nq
          case measure => simp [intOf]; omega
    ·
      have hge : ¬ i < b := by assumption
      go_end0
      exact ⟨rfl, n, by unfold Sort.insertionSort; rw [← HO.out, insOuter_stop _ _ _ _ _ hge]⟩

end Go.Proofs.Ybulkamjs
