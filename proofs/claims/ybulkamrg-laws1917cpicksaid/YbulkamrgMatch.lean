/- TagSet.matches. -/
import Derived.Test.YbulkamrgTags
namespace Go.Proofs.Ybulkamrg
open Go.RowKit Go.Maps Go.WideMaps

set_option maxRecDepth 20000 in
set_option maxHeartbeats 2000000 in
theorem set_matches (m N : Nat) (D : DataW Unit) (fS fT : Nat → Option ByteArray) (vT : Value) (w : World) (hm : w.ownsMap Yba.prog 9 (plainElem Yba.prog 9) m N D) (hF : FD D fS) (hT : MapF w vT fT) :
    Calls Yba.prog 19 #[.map (some m), vT] w fun e w' => ∃ r : Bool, e = .returned (.bool r) ∧ (r = true ↔ tmeet fS fT) ∧ Below w.heap.size w w' := by
  have Hm : Hid (w.ownsMap Yba.prog 9 (plainElem Yba.prog 9) m N D) := hm
  have HF : Hid (FD D fS) := hF
  have HT : Hid (MapF w vT fT) := hT
  have hlt := hm.lt
  clear hm hF hT
  go_enter Yba.func19, Yba.ntmps19
  go_wp2_with (at_range; refine wpList_range_own _ rfl _ 46 rfl 9 9 keyed9 Yba.underlying46 _ m N D rfl Hm.out ?_; intro w0 hrg0 hg0 hs0; have Hrg0 : Hid (w0.ranges Yba.prog 9 (plainElem Yba.prog 9) m w.heap.size N D (Maps.has D) (Maps.size D)) := hrg0; have HB0 : Hid (Below w.heap.size w w0) := Below.grown hg0 (Nat.le_refl _) (fun k e => by cases e); clear hrg0 hg0)
  go_frame
  go_loopw [5] (fun _ wr => ∃ (left : Lit → Bool) (cnt : Nat), Hid (wr.ranges Yba.prog 9 (plainElem Yba.prog 9) m w.heap.size N D left cnt) ∧ Hid (∀ l, left l = true → Maps.has D l = true) ∧
      Hid (∀ i, i < 6 → (fS i).isSome = true → left (kL i) = true ∨ fT i = fS i) ∧ Hid (Below w.heap.size w wr)) (fun _ wr => wr.rangeLeft m w.heap.size)
  case atStart => exact ⟨Maps.has D, _, Hrg0, fun _ h => h, show ∀ i, i < 6 → (fS i).isSome = true → _ from fun i hi h => .inl (by rw [HF.out.has i hi, h]), HB0⟩
  case round =>
    obtain ⟨left, cnt, Hrg, Hle, Hdn, HB⟩ := hrel
    go_wp2_with (at_next; refine wpList_next_tags _ rfl _ rfl m w.heap.size N D fS HF.out left cnt Hle.out rfl Hrg.out ?_ ?_)
    · intro hl0
      have Hl0 : Hid _ := hl0
      clear hl0
      go_wp2
      go_ret
      refine ⟨true, rfl, ?_, HB.out⟩
      simp only [true_iff]
      intro i hi hs
      rcases Hdn.out i hi hs with h | h
      · rw [Hl0.out] at h; cases h
      · exact h
    · intro i v w1 cnt1 hi hv hli hrg1 hlt1 hg1 hs1 hen
      have HB1 : Hid (Below w.heap.size w w1) := HB.out.trans (Below.grown hg1 HB.out.size (fun k e => by cases e; exact Nat.le_refl _))
      have hlk := (HT.out.keep HB1.out).look hi Yba.underlying32
      have Hrg1 : Hid (w1.ranges Yba.prog 9 (plainElem Yba.prog 9) m w.heap.size N D (fun z => left z && !z.sameKey (kL i)) cnt1) := hrg1
      have Hv : Hid (fS i = some v) := hv
      have hmeas : w1.rangeLeft m w.heap.size < wr.rangeLeft m w.heap.size := by rw [hrg1.left_eq, Hrg.out.left_eq]; exact hlt1
      clear hrg1 hg1 hv hli
      by_cases hok : fT i = some v
      · have he := str_eq v v
        rw [decide_eq_true rfl] at he
        have Hok : Hid _ := hok
        rw [hok] at hlk
        simp only [got, Option.getD_some, Option.isSome_some] at hlk
        clear hok
        go_wp2
        go_roundw
        case rel =>
          refine ⟨_, _, Hrg1, show ∀ l, _ from fun l hl => ?_, show ∀ q, q < 6 → (fS q).isSome = true → _ from fun q hq hs => ?_, HB1⟩
          · simp only [Bool.and_eq_true] at hl
            exact Hle.out l hl.1
          · by_cases e : q = i
            · subst e; right; rw [Hok.out, Hv.out]
            · rcases Hdn.out q hq hs with h | h
              · left
                simp only [h, Bool.true_and, Bool.not_eq_true']
                exact sameKey_ne (kL_ne hq hi e)
              · exact .inr h
        case measure => exact hmeas
      · have hno : ¬ tmeet fS fT := fun h => hok (by rw [h i hi (by rw [Hv.out]; rfl), Hv.out])
        have Hno : Hid _ := hno
        clear hno
        cases hft : fT i with
        | none =>
          rw [hft] at hlk
          simp only [got, Option.getD_none, Option.isSome_none] at hlk
          clear hok hft
          go_wp2
          go_ret
          exact ⟨false, rfl, ⟨fun h => (by cases h), fun h => (Hno.out h).elim⟩, HB1.out⟩
        | some u =>
          rw [hft] at hlk
          simp only [got, Option.getD_some, Option.isSome_some] at hlk
          have he := str_eq u v
          rw [decide_eq_false (fun e => hok (by rw [hft, e]))] at he
          clear hok hft
          go_wp2
          go_ret
          exact ⟨false, rfl, ⟨fun h => (by cases h), fun h => (Hno.out h).elim⟩, HB1.out⟩
end Go.Proofs.Ybulkamrg
