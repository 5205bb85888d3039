/- The walk of LawS1917CPick: it returns true. -/
import Derived.Test.YbulkamrgLawH
namespace Go.Proofs.Ybulkamrg
open Go.RowKit Go.Maps Go.WideMaps
set_option linter.unusedSimpArgs false
set_option linter.unusedVariables false

set_option maxRecDepth 20000 in
set_option maxHeartbeats 4000000 in
theorem law_small (a0 a1 a2 : Option Addr) (cap0 cap1 cap2 : Nat) (zs : List ZS) (zb : List ZB) (av : List Nat) (ty : Int) (nilS : Bool) (w : World)
    (h0 : ZSrvs w a0 zs) (h1 : ZSets w a1 zb) (h2 : Bytes w a2 av) (l0 : zs.length ≤ 256) (l1 : zb.length ≤ 256) (l2 : av.length ≤ 256) :
    Calls Yba.prog 3 #[.slice a0 zs.length cap0, .slice a1 zb.length cap1, .slice a2 av.length cap2, .int .u16 ty, .bool nilS] w fun e w' => e = .returned (.bool true) ∧ Below w.heap.size w w' := by
  have H0 : Hid (ZSrvs w a0 zs) := h0
  have H1 : Hid (ZSets w a1 zb) := h1
  have H2 : Hid (Bytes w a2 av) := h2
  clear h0 h1 h2
  generalize hn0 : zs.length = n0 at l0 ⊢
  generalize hn1 : zb.length = n1 at l1 ⊢
  generalize hn2 : av.length = n2 at l2 ⊢
  have N0 : Hid (zs.length = n0) := hn0
  have N1 : Hid (zb.length = n1) := hn1
  have N2 : Hid (av.length = n2) := hn2
  clear hn0 hn1 hn2
  have g0 : ¬ (256 : Int) < (n0 : Int) := by omega
  have g1 : ¬ (256 : Int) < (n1 : Int) := by omega
  have g2 : ¬ (256 : Int) < (n2 : Int) := by omega
  go_enter Yba.func3, Yba.ntmps3
  go_upto_block 0 with (fail)
  obtain ⟨wd, hwd⟩ : ∃ wd : World, wd = w := ⟨_, rfl⟩
  subst hwd
  go_cut [10, 11] from 33 (fun _ _ wc => wc = wd ∧ Hid (∀ z, z ∈ zs → z.tags.length ≤ 256))
  case first =>
    go_wp2
    go_loop [48] (fun i => ∃ j : Nat, i = .int .i64 j ∧ j ≤ n0 ∧ Hid (∀ z, z ∈ zs.take j → z.tags.length ≤ 256)) (fun i => n0 - (intOf i).toNat)
    case atStart => exact ⟨0, rfl, by omega, show ∀ z, z ∈ zs.take 0 → _ from fun z h => by simp at h⟩
    case round =>
      obtain ⟨j, rfl, hj, HT⟩ := hrel
      by_cases hlt : j < n0
      · have j1 : (j : Int) < (n0 : Int) := by omega
        obtain ⟨z, hz⟩ : ∃ z, zs[j]? = some z := ⟨_, List.getElem?_eq_getElem (by rw [N0.out]; exact hlt)⟩
        obtain ⟨_, _, _, x, hx, c0, c1, c2⟩ := H0.out j z hz
        subst hx
        have Hz : Hid (zs[j]? = some z) := hz
        have ab := add_block x (j * 3)
        have ao := add_off x (j * 3)
        clear hz c0 c1
        by_cases hb : z.tags.length ≤ 256
        · have hb' : ¬ (256 : Int) < (z.tags.length : Int) := by omega
          go_wp2
          go_round
          case rel =>
            refine ⟨j + 1, by simp, by omega, show ∀ y, _ → _ from fun y hy => ?_⟩
            rw [List.take_add_one, Hz.out] at hy
            simp only [Option.toList, List.mem_append, List.mem_singleton] at hy
            rcases hy with hy | hy
            · exact HT.out y hy
            · subst hy; exact hb
          case measure => simp [intOf]; omega
        · have hb' : (256 : Int) < (z.tags.length : Int) := by omega
          go_wp2
          go_ret
          exact ⟨rfl, Below.refl _ _⟩
      · have hje : n0 = j := by omega
        have T0 : Hid (∀ z, z ∈ zs → z.tags.length ≤ 256) := by
          have := HT.out
          rwa [List.take_of_length_le (by rw [N0.out]; omega)] at this
        subst hje
        go_wp2
        go_meet
        exact ⟨rfl, T0⟩
  case rest =>
    obtain ⟨rfl, T0⟩ := hcut
    obtain ⟨we, hwe⟩ : ∃ we : World, we = wc := ⟨_, rfl⟩
    subst hwe
    go_upto_block 2 with (fail)
    go_cut [10, 12] from 33 (fun _ _ wc => wc = we ∧ Hid (∀ z, z ∈ zb → z.bs.length ≤ 256))
    case first =>
      go_wp2
      go_loop [61] (fun i => ∃ j : Nat, i = .int .i64 j ∧ j ≤ n1 ∧ Hid (∀ z, z ∈ zb.take j → z.bs.length ≤ 256)) (fun i => n1 - (intOf i).toNat)
      case atStart => exact ⟨0, rfl, by omega, show ∀ z, z ∈ zb.take 0 → _ from fun z h => by simp at h⟩
      case round =>
        obtain ⟨j, rfl, hj, HT⟩ := hrel
        by_cases hlt : j < n1
        · have j1 : (j : Int) < (n1 : Int) := by omega
          obtain ⟨z, hz⟩ : ∃ z, zb[j]? = some z := ⟨_, List.getElem?_eq_getElem (by rw [N1.out]; exact hlt)⟩
          obtain ⟨_, x, hx, c0⟩ := H1.out j z hz
          subst hx
          have Hz : Hid (zb[j]? = some z) := hz
          clear hz
          by_cases hb : z.bs.length ≤ 256
          · have hb' : ¬ (256 : Int) < (z.bs.length : Int) := by omega
            go_wp2
            go_round
            case rel =>
              refine ⟨j + 1, by simp, by omega, show ∀ y, _ → _ from fun y hy => ?_⟩
              rw [List.take_add_one, Hz.out] at hy
              simp only [Option.toList, List.mem_append, List.mem_singleton] at hy
              rcases hy with hy | hy
              · exact HT.out y hy
              · subst hy; exact hb
            case measure => simp [intOf]; omega
          · have hb' : (256 : Int) < (z.bs.length : Int) := by omega
            go_wp2
            go_ret
            exact ⟨rfl, Below.refl _ _⟩
        · have hje : n1 = j := by omega
          have T1 : Hid (∀ z, z ∈ zb → z.bs.length ≤ 256) := by
            have := HT.out
            rwa [List.take_of_length_le (by rw [N1.out]; omega)] at this
          subst hje
          go_wp2
          go_meet
          exact ⟨rfl, T1⟩
    case rest =>
      obtain ⟨rfl, T1⟩ := hcut
      go_step
      exact seg15 a0 a1 a2 cap0 cap1 cap2 n0 n1 n2 ty nilS zs zb av wc wc wc.heap.size (Below.refl _ _) (Nat.le_refl _) H0.out H1.out H2.out N0.out N1.out N2.out l0 l1 l2 T0.out T1.out _ _ _ _ _ _ _ _ _ _ _ _ _ _ _ _ _ _ _ _ _ _ _ _ _ _ _ _ _ _ _ _ _ _ _ _ _ _ _ _ _ _ _ _ _ _ _ _ _ _ _ _ _ _ _ _ _ _ _ _ _ _ _ _ _ _ _ _ _ _ _ _ _ _ _ _ _ _ _ _ _ _ _ _ _ _ _ _ _ _ _ _ _ _ _ _ _ _ _ _ _ _ _ _ _ _ _ _ _ _ _ _ _ _ _ _ _ _ _ _ _ _ _ _ _ _ _ _ _ _ _ _ _ _ _ _ _ _ _ _ _ _ _ _ _ _ _ _ _ _ _ _ _ _ _ _ _ _ _ _ _ _ _ _ _ _ _ _ _ _ _ _ _ _ _ _ _ _ _ _ _ _ _ _ _ _ _ _ _ _ _ _ _ _ _ _ _ _ _ _ _ _ _ _ _ _ _ _ _ _ _ _ _ _ _ _ _ _ _ _ _ _ _ _ _ _ _ _ _ _ _ _ _ _ _ _ _ _ _ _ _ _ _ _ _ _ _ _ _ _ _ _ _ _ _ _ _ _ _ _ _ _ _ _ _ _ _ _ _ _ _ _ _ _ _ _ _ _ _ _ _ _ _ _ _ _ _ _ _ _ _ _ _ _ _ _ _ _ _ _ _ _ _ _ _ _ _ _ _ _ _ _ _ _ _ _ _ _ _ _ _ _ _ _ _ _ _ _ _ _ _ _ _ _ _ _

set_option maxRecDepth 20000 in
set_option maxHeartbeats 4000000 in
theorem law_big (a0 a1 a2 : Option Addr) (cap0 cap1 cap2 n0 n1 n2 : Nat) (ty : Int) (nilS : Bool) (w : World) (h : ¬ (n0 ≤ 256 ∧ n1 ≤ 256 ∧ n2 ≤ 256)) :
    Calls Yba.prog 3 #[.slice a0 n0 cap0, .slice a1 n1 cap1, .slice a2 n2 cap2, .int .u16 ty, .bool nilS] w fun e w' => e = .returned (.bool true) ∧ Below w.heap.size w w' := by
  by_cases h0 : n0 ≤ 256
  · have g0 : ¬ (256 : Int) < (n0 : Int) := by omega
    by_cases h1 : n1 ≤ 256
    · have g1 : ¬ (256 : Int) < (n1 : Int) := by omega
      have g2 : (256 : Int) < (n2 : Int) := by omega
      clear h h0 h1
      go_enter Yba.func3, Yba.ntmps3
      go_wp2
      go_ret
      exact ⟨rfl, Below.refl _ _⟩
    · have g1 : (256 : Int) < (n1 : Int) := by omega
      clear h h0 h1
      go_enter Yba.func3, Yba.ntmps3
      go_wp2
      go_ret
      exact ⟨rfl, Below.refl _ _⟩
  · have g0 : (256 : Int) < (n0 : Int) := by omega
    clear h h0
    go_enter Yba.func3, Yba.ntmps3
    go_wp2
    go_ret
    exact ⟨rfl, Below.refl _ _⟩

/-- THE LAW RETURNS TRUE, and leaves every block that was there. -/
theorem law_any (a0 a1 a2 : Option Addr) (cap0 cap1 cap2 : Nat) (zs : List ZS) (zb : List ZB) (av : List Nat) (ty : Int) (nilS : Bool) (w : World) (h0 : ZSrvs w a0 zs) (h1 : ZSets w a1 zb) (h2 : Bytes w a2 av) :
    Calls Yba.prog 3 #[.slice a0 zs.length cap0, .slice a1 zb.length cap1, .slice a2 av.length cap2, .int .u16 ty, .bool nilS] w fun e w' => e = .returned (.bool true) ∧ Below w.heap.size w w' := by
  by_cases h : zs.length ≤ 256 ∧ zb.length ≤ 256 ∧ av.length ≤ 256
  · exact law_small a0 a1 a2 cap0 cap1 cap2 zs zb av ty nilS w h0 h1 h2 h.1 h.2.1 h.2.2
  · exact law_big a0 a1 a2 cap0 cap1 cap2 _ _ _ ty nilS w h
end Go.Proofs.Ybulkamrg
