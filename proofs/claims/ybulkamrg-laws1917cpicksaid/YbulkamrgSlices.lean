/- slices.Index, slices.Contains, slices.Equal at strings. -/
import Derived.Test.YbulkamrgBase
namespace Go.Proofs.Ybulkamrg
open Go.RowKit

/-- A slice of strings. -/
def Strs (w : World) (a : Option Addr) (ss : List ByteArray) : Prop := ∀ (i : Nat) (s : ByteArray), ss[i]? = some s → ∃ x, a = some x ∧ w.cell? (x.add i) = some (.string s)
theorem Strs.keep {w w' : World} {a : Option Addr} {ss : List ByteArray} (h : Strs w a ss) (hB : Below w.heap.size w w') : Strs w' a ss := fun i b hb => by
  obtain ⟨x, h2, h3⟩ := h i b hb
  exact ⟨x, h2, Below.cellAt hB h3⟩

theorem str_eq (s u : ByteArray) : (s.toList == u.toList) = decide (s = u) := by
  rw [ByteArray.toList_eq, ByteArray.toList_eq]
  by_cases h : s = u
  · subst h; simp
  · have : ¬ s.data.toList = u.data.toList := fun e => h (byteArray_data e)
    simp only [h, decide_false]
    simpa using this

def inS (s : ByteArray) (ss : List ByteArray) : Bool := ss.any fun u => decide (u = s)
theorem inS_iff {s : ByteArray} {ss : List ByteArray} : inS s ss = true ↔ s ∈ ss := by simp [inS]

set_option maxHeartbeats 2000000 in
theorem index_any (a : Option Addr) (ss : List ByteArray) (cap : Nat) (s : ByteArray) (w : World) (hb : Strs w a ss) (hl : ss.length < 100000) :
    Calls Yba.prog 18 #[.slice a ss.length cap, .string s] w fun e w' => ∃ z : Int, e = .returned (.int .i64 z) ∧ (0 ≤ z ↔ s ∈ ss) ∧ w' = w := by
  have Hb : Hid (Strs w a ss) := hb
  clear hb
  generalize hn : ss.length = n at hl ⊢
  have Hn : Hid (ss.length = n) := hn
  clear hn
  go_enter Yba.func18, Yba.ntmps18
  go_wp2
  go_loop [8] (fun i => ∃ j : Nat, i = .int .i64 j ∧ j ≤ n ∧ Hid (s ∉ ss.take j)) (fun i => n - (intOf i).toNat)
  case atStart => exact ⟨0, rfl, by omega, show s ∉ ss.take 0 by simp⟩
  case round =>
    obtain ⟨j, rfl, hj, HF⟩ := hrel
    by_cases hlt : j < n
    · have j1 : (j : Int) < (n : Int) := by omega
      obtain ⟨u, hu⟩ : ∃ u, ss[j]? = some u := ⟨_, List.getElem?_eq_getElem (by rw [Hn.out]; exact hlt)⟩
      obtain ⟨x, hx, hc⟩ := Hb.out j u hu
      subst hx
      have Hu : Hid _ := hu
      clear hu
      have he2 := str_eq s u
      by_cases he : s = u
      · rw [decide_eq_true he] at he2
        have He : Hid (s = u) := he
        clear he
        go_wp2
        go_ret
        refine ⟨j, rfl, ?_, rfl⟩
        rw [He.out]
        have := List.mem_of_getElem? Hu.out
        simp [this]
      · rw [decide_eq_false he] at he2
        go_wp2
        go_round
        case rel =>
          refine ⟨j + 1, by simp, by omega, ?_⟩
          show s ∉ ss.take (j + 1)
          rw [List.take_add_one, Hu.out]
          simp only [Option.toList, List.mem_append, List.mem_singleton]
          rintro (h | h)
          · exact HF.out h
          · exact he h
        case measure => simp [intOf]; omega
    · have hje : j = n := by omega
      subst hje
      go_wp2
      go_ret
      refine ⟨-1, rfl, ?_, rfl⟩
      have := HF.out
      rw [List.take_of_length_le (by rw [Hn.out]; exact Nat.le_refl _)] at this
      simp [this]

set_option maxHeartbeats 1000000 in
theorem contains_any (a : Option Addr) (ss : List ByteArray) (cap : Nat) (s : ByteArray) (w : World) (hb : Strs w a ss) (hl : ss.length < 100000) :
    Calls Yba.prog 15 #[.slice a ss.length cap, .string s] w fun e w' => e = .returned (.bool (inS s ss)) ∧ w' = w := by
  have Hb : Hid (Strs w a ss) := hb
  clear hb
  go_enter Yba.func15, Yba.ntmps15
  go_wp2_with (go_at_call 18; refine (index_any _ ss _ _ _ Hb.out hl).mono ?_; rintro e w' ⟨z, rfl, hz, rfl⟩; have Hz : Hid _ := hz; clear hz)
  go_ret
  refine ⟨?_, rfl⟩
  have : decide (0 ≤ z) = inS s ss := by
    cases h : inS s ss with
    | true => rw [inS_iff, ← Hz.out] at h; simpa using h
    | false =>
      have : ¬ 0 ≤ z := fun h' => by rw [Hz.out, ← inS_iff, h] at h'; cases h'
      simpa using this
  rw [this]
  rfl

set_option maxRecDepth 20000 in
set_option maxHeartbeats 2000000 in
theorem equal_any (a : Option Addr) (ss : List ByteArray) (cap : Nat) (w : World) (hb : Strs w a ss) (hl : ss.length < 100000) :
    Calls Yba.prog 7 #[.slice a ss.length cap, .slice a ss.length cap] w fun e w' => e = .returned (.bool true) ∧ Below w.heap.size w w' := by
  have Hb : Hid (Strs w a ss) := hb
  clear hb
  generalize hn : ss.length = n at hl ⊢
  have Hn : Hid (ss.length = n) := hn
  clear hn
  go_enter Yba.func7, Yba.ntmps7
  go_wp2
  go_loopw [13] (fun i wr => ∃ j : Nat, i = .int .i64 j ∧ j ≤ n ∧ Hid (Below w.heap.size w wr)) (fun i _ => n - (intOf i).toNat)
  case atStart => exact ⟨0, rfl, by omega, Below.refl _ _⟩
  case round =>
    obtain ⟨j, rfl, hj, HB⟩ := hrel
    by_cases hlt : j < n
    · have j1 : (j : Int) < (n : Int) := by omega
      obtain ⟨u, hu⟩ : ∃ u, ss[j]? = some u := ⟨_, List.getElem?_eq_getElem (by rw [Hn.out]; exact hlt)⟩
      obtain ⟨x, hx, hc⟩ := Hb.out j u hu
      subst hx
      have hc' := Below.cellAt HB.out hc
      clear hu hc
      have he2 := str_eq u u
      rw [decide_eq_true rfl] at he2
      go_wp2
      refine wp_region_still_lit (by kernel_rfl) (by kernel_rfl) ?_
      change wpStill _ _ wr.drew _ _ _
      repeat still_step
      refine wpStill_nil ?_
      change Exit.then _ _ _ _ wr.drew
      go_wp2
      go_roundw
      case rel => exact ⟨j + 1, by simp, by omega, HB.out.drew⟩
      case measure => simp [intOf]; omega
    · have hje : j = n := by omega
      subst hje
      go_wp2
      go_ret
      exact ⟨rfl, HB.out⟩
end Go.Proofs.Ybulkamrg
