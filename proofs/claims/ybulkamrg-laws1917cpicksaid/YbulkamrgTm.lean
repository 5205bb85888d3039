/- tagMatcher.matches. -/
import Derived.Test.YbulkamrgMatch
namespace Go.Proofs.Ybulkamrg
open Go.RowKit Go.Maps Go.WideMaps

theorem neq_none (w : World) : (binOp .neq 46 (.map none) (.map none)).run Yba.prog w = .ok (.bool false) w := by kernel_rfl
theorem neq_some (m : Nat) (w : World) : (binOp .neq 46 (.map (some m)) (.map none)).run Yba.prog w = .ok (.bool true) w := by kernel_rfl

/-- The pairs ps are just what f holds. -/
structure Pairs (ps : List (Nat × ByteArray)) (f : Nat → Option ByteArray) : Prop where
  ok : ∀ p, p ∈ ps → p.1 < 6 ∧ f p.1 = some p.2
  all : ∀ i, i < 6 → (f i).isSome = true → ∃ p, p ∈ ps ∧ p.1 = i
  len : ps.length ≤ 4

/-- The cells of a matcher with pairs. -/
def TmP (w : World) (c o : Nat) (ps : List (Nat × ByteArray)) : Prop :=
  w.cell? ⟨c, o + 9, none⟩ = some (.map none) ∧ w.cell? ⟨c, o + 8, none⟩ = some (.int .i64 (ps.length : Nat)) ∧
  ∀ (j : Nat) (p : Nat × ByteArray), ps[j]? = some p → w.cell? ⟨c, o + j * 2, none⟩ = some (.string (ks p.1)) ∧ w.cell? ⟨c, o + j * 2 + 1, none⟩ = some (.string p.2)

set_option maxRecDepth 20000 in
set_option maxHeartbeats 2000000 in
theorem tm_pairs (c o : Nat) (ps : List (Nat × ByteArray)) (fS fT : Nat → Option ByteArray) (vT : Value) (w : World) (hP : Pairs ps fS) (hc : TmP w c o ps) (hT : MapF w vT fT) :
    Calls Yba.prog 16 #[.pointer (some ⟨c, o, none⟩), vT] w fun e w' => ∃ r : Bool, e = .returned (.bool r) ∧ (r = true ↔ tmeet fS fT) ∧ Below w.heap.size w w' := by
  have HP : Hid (Pairs ps fS) := hP
  have HT : Hid (MapF w vT fT) := hT
  obtain ⟨c9, c8, cp⟩ := hc
  have Hcp : Hid (∀ (j : Nat) (p : Nat × ByteArray), ps[j]? = some p → w.cell? ⟨c, o + j * 2, none⟩ = some (.string (ks p.1)) ∧ w.cell? ⟨c, o + j * 2 + 1, none⟩ = some (.string p.2)) := cp
  have hl := hP.len
  have hlt := cell_lt c9
  generalize hn : ps.length = n at c8 hl
  have Hn : Hid (ps.length = n) := hn
  clear hP hT cp hn
  have n4 : (n : Int) ≤ 4 := by omega
  have hnn := neq_none w
  go_enter Yba.func16, Yba.ntmps16
  go_wp2
  refine wp_region_still_lit (by kernel_rfl) (by kernel_rfl) ?_
  change wpStill _ _ w.drew _ _ _
  repeat still_step
  refine wpStill_nil ?_
  change Exit.then _ _ _ _ w.drew
  go_wp2
  clear hnn c8 c9
  go_loopw [29] (fun i wr => ∃ j : Nat, i = .int .i64 j ∧ j ≤ n ∧ Hid (∀ p, p ∈ ps.take j → fT p.1 = some p.2) ∧ Hid (Below w.heap.size w wr)) (fun i _ => n - (intOf i).toNat)
  case atStart => exact ⟨0, rfl, by omega, show ∀ p, p ∈ ps.take 0 → _ from fun p h => by simp at h, (Below.refl _ _).drew⟩
  case round =>
    obtain ⟨j, rfl, hj, HD, HB⟩ := hrel
    by_cases hlt : j < n
    · have j1 : (j : Int) < (n : Int) := by omega
      obtain ⟨p, hp⟩ : ∃ p, ps[j]? = some p := ⟨_, List.getElem?_eq_getElem (by rw [Hn.out]; exact hlt)⟩
      obtain ⟨q1, q2⟩ := Hcp.out j p hp
      have d1 := Below.cellAt HB.out q1
      have d2 := Below.cellAt HB.out q2
      have hok := HP.out.ok p (List.mem_of_getElem? hp)
      obtain ⟨i, v⟩ := p
      have hi := hok.1
      simp only at d1 d2 hi
      have HB1 : Hid (Below w.heap.size w (wr.alloc (.cells #[.string (ks i), .string v] 54 (0, 0)))) := HB.out.alloc HB.out.size _
      have hlk := (HT.out.keep HB1.out).look hi Yba.underlying32
      have Hok : Hid (fS i = some v) := hok.2
      have Hp : Hid (ps[j]? = some (i, v)) := hp
      clear q1 q2 hok hp
      by_cases hft : fT i = some v
      · have he := str_eq v v
        rw [decide_eq_true rfl] at he
        have Hft : Hid _ := hft
        rw [hft] at hlk
        simp only [got, Option.getD_some, Option.isSome_some] at hlk
        clear hft
        go_wp2
        go_roundw
        case rel =>
          refine ⟨j + 1, by simp, by omega, show ∀ p, _ → _ from fun p hp => ?_, HB1⟩
          rw [List.take_add_one, Hp.out] at hp
          simp only [Option.toList, List.mem_append, List.mem_singleton] at hp
          rcases hp with hp | hp
          · exact HD.out p hp
          · subst hp; exact Hft.out
        case measure => simp [intOf]; omega
      · have hno : ¬ tmeet fS fT := fun h => hft (by rw [h i hi (by rw [Hok.out]; rfl), Hok.out])
        have Hno : Hid (¬ tmeet fS fT) := hno
        clear hno
        cases hf2 : fT i with
        | none =>
          rw [hf2] at hlk
          simp only [got, Option.getD_none, Option.isSome_none] at hlk
          clear hft hf2
          go_wp2
          go_ret
          exact ⟨false, rfl, ⟨fun h => (by cases h), fun h => (Hno.out h).elim⟩, HB1.out⟩
        | some u =>
          rw [hf2] at hlk
          simp only [got, Option.getD_some, Option.isSome_some] at hlk
          have he := str_eq u v
          rw [decide_eq_false (fun e => hft (by rw [hf2, e]))] at he
          clear hft hf2
          go_wp2
          go_ret
          exact ⟨false, rfl, ⟨fun h => (by cases h), fun h => (Hno.out h).elim⟩, HB1.out⟩
    · have hje : j = n := by omega
      subst hje
      go_wp2
      go_ret
      refine ⟨true, rfl, ?_, HB.out⟩
      simp only [true_iff]
      intro i hi hs
      obtain ⟨p, hp, rfl⟩ := HP.out.all i hi hs
      have h1 := HD.out p (by rw [List.take_of_length_le (by rw [Hn.out]; exact Nat.le_refl _)]; exact hp)
      rw [h1, (HP.out.ok p hp).2]

set_option maxRecDepth 20000 in
set_option maxHeartbeats 2000000 in
theorem tm_set (c o m N : Nat) (D : DataW Unit) (fS fT : Nat → Option ByteArray) (vT : Value) (w : World) (hc : w.cell? ⟨c, o + 9, none⟩ = some (.map (some m)))
    (hm : w.ownsMap Yba.prog 9 (plainElem Yba.prog 9) m N D) (hF : FD D fS) (hT : MapF w vT fT) :
    Calls Yba.prog 16 #[.pointer (some ⟨c, o, none⟩), vT] w fun e w' => ∃ r : Bool, e = .returned (.bool r) ∧ (r = true ↔ tmeet fS fT) ∧ Below w.heap.size w w' := by
  have hnn := neq_some m w
  have Hm : Hid (w.ownsMap Yba.prog 9 (plainElem Yba.prog 9) m N D) := hm
  have HF : Hid (FD D fS) := hF
  have HT : Hid (MapF w vT fT) := hT
  clear hm hF hT
  go_enter Yba.func16, Yba.ntmps16
  go_wp2_with (go_at_call 19; refine Calls.mono (set_matches m N D fS fT vT w Hm.out HF.out HT.out) ?_; rintro e w' ⟨r, rfl, hr, hB⟩; have Hr : Hid (r = true ↔ tmeet fS fT) := hr; have HB : Hid (Below w.heap.size w w') := hB; clear hr hB)
  go_ret
  exact ⟨r, rfl, Hr.out, HB.out⟩

/-- A matcher at an address, of whichever kind. -/
def Tm (w : World) (c o : Nat) (fS : Nat → Option ByteArray) : Prop :=
  (∃ ps, Pairs ps fS ∧ TmP w c o ps) ∨ ∃ m N D, w.cell? ⟨c, o + 9, none⟩ = some (.map (some m)) ∧ w.ownsMap Yba.prog 9 (plainElem Yba.prog 9) m N D ∧ FD D fS
theorem tm_any (c o : Nat) (fS fT : Nat → Option ByteArray) (vT : Value) (w : World) (hM : Tm w c o fS) (hT : MapF w vT fT) :
    Calls Yba.prog 16 #[.pointer (some ⟨c, o, none⟩), vT] w fun e w' => ∃ r : Bool, e = .returned (.bool r) ∧ (r = true ↔ tmeet fS fT) ∧ Below w.heap.size w w' := by
  rcases hM with ⟨ps, h1, h2⟩ | ⟨m, N, D, h1, h2, h3⟩
  · exact tm_pairs c o ps fS fT vT w h1 h2 hT
  · exact tm_set c o m N D fS fT vT w h1 h2 h3 hT
theorem Tm.keep {w w' : World} {c o : Nat} {fS : Nat → Option ByteArray} (h : Tm w c o fS) (hB : Below w.heap.size w w') : Tm w' c o fS := by
  rcases h with ⟨ps, h1, h2, h3, h4⟩ | ⟨m, N, D, h1, h2, h3⟩
  · exact .inl ⟨ps, h1, Below.cellAt hB h2, Below.cellAt hB h3, fun j p hp => ⟨Below.cellAt hB (h4 j p hp).1, Below.cellAt hB (h4 j p hp).2⟩⟩
  · exact .inr ⟨m, N, D, Below.cellAt hB h1, ownsMap_heap h2 (hB.block m h2.lt), h3⟩
end Go.Proofs.Ybulkamrg
