/- A region that draws its order, in which some operations ('late') write what others read: the reader may still be taken first if every late one waits for it. -/
import Derived.OrdersHeld
import Derived.Deep.RegionHeld
namespace Go.Proofs.Ybulkamjs
open Go
section
variable {P : Program} {ops : Array Oper} {Q : Exit → Act → World → Prop} {md : Region.Mode} {S : World → Prop} {late : Nat → Bool}

/-- Whatever order is picked; behind every operation that is not late S holds if it held before. -/
def anyLate (P : Program) (md : Region.Mode) (ops : Array Oper) (Q : Exit → Act → World → Prop) (S : World → Prop) (late : Nat → Bool) : Nat → Array Bool → Act → World → Prop
  | 0, listed, a, w => Region.ready md ops listed = [] ∧ Q .normal a w
  | fuel + 1, listed, a, w =>
    (Region.ready md ops listed = [] → Q .normal a w) ∧
    ∀ i ∈ Region.ready md ops listed, wpOp P ops Q i (fun a' w' => (late i = false → S w → S w') ∧ anyLate P md ops Q S late fuel (listed.setIfInBounds i true) a' w') a w

theorem anyLate_any : ∀ (fuel : Nat) (listed : Array Bool) (a : Act) (w : World), anyLate P md ops Q S late fuel listed a w → wpAny P md ops Q fuel listed a w
  | 0, _, _, _, h => h
  | fuel + 1, _, _, _, h => ⟨h.1, fun i hi => wpOp_mono (fun a' w' h' => anyLate_any fuel _ a' w' h'.2) (h.2 i hi)⟩

theorem anyLate_first {i : Nat} {oi : Oper} {v : Value} (hi : ops[i]? = some oi) (hsel : ∀ (j : Nat) (o : Oper) cs b, ops[j]? = some o → o.op ≠ .select cs b)
    (hQ : ∀ c a w, Q (.panic c) (a.put oi.dst v) w → Q (.panic c) a w) (hli : late i = false)
    (hlate : ∀ j oj, ops[j]? = some oj → late j = true → ∃ e ∈ oj.after, Region.binds md e = true ∧ e.on = i) :
    ∀ (fuel : Nat) (listed : Array Bool) (a : Act) (w : World),
      (∀ j oj, ops[j]? = some oj → j ≠ i → listed.getD j true = false → (∀ e ∈ oj.after, Region.binds md e = true → e.on ≠ i) → oi.apart ops oj = true) →
      i ∈ Region.ready md ops listed → YieldsIf P ops S oi v a → S w →
      anyLate P md ops Q S late fuel (listed.setIfInBounds i true) (a.put oi.dst v) w → anyLate P md ops Q S late (fuel + 1) listed a w := by
  intro fuel
  induction fuel with
  | zero =>
    intro listed a w _ hr hy hS H
    refine ⟨fun h => (by rw [h] at hr; cases hr), fun j hj => ?_⟩
    by_cases hji : j = i
    · subst hji; exact hy.wpOp hi hS ⟨fun _ h => h, H⟩
    · have := ready_mono hj hji
      rw [H.1] at this
      cases this
  | succ fuel ih =>
    intro listed a w hfree hr hy hS H
    refine ⟨fun h => (by rw [h] at hr; cases hr), fun j hj => ?_⟩
    by_cases hji : j = i
    · subst hji; exact hy.wpOp hi hS ⟨fun _ h => h, H⟩
    · have h1 := H.2 j (ready_mono hj hji)
      obtain ⟨hjun, oj, hoj, hall⟩ := mem_ready.1 hj
      have hnot : ∀ e ∈ oj.after, Region.binds md e = true → e.on ≠ i := fun e he hb heq => by
        have h1 := hall e he hb
        have h0 := (mem_ready.1 hr).1
        rw [heq] at h1
        rcases Nat.lt_or_ge i listed.size with h' | h'
        · simp [h'] at h0 h1; rw [h0] at h1; cases h1
        · simp [Array.getElem?_eq_none h'] at h1
      have hlj : late j = false := by
        cases hl : late j with
        | false => rfl
        | true =>
          obtain ⟨e, he, hb, hon⟩ := hlate j oj hoj hl
          exact absurd hon (hnot e he hb)
      have h2 := wpOp_putIf hoj (hfree j oj hoj hji hjun hnot) (fun cs b => hsel i oi cs b hi) (fun cs b => hsel j oj cs b hoj) hQ hy h1
      have hfree' : ∀ k ok, ops[k]? = some ok → k ≠ i → (listed.setIfInBounds j true).getD k true = false →
          (∀ e ∈ ok.after, Region.binds md e = true → e.on ≠ i) → oi.apart ops ok = true := fun k ok hk hki hun hno => by
        refine hfree k ok hk hki ?_ hno
        by_cases hjk : j = k
        · subst hjk; exact hjun
        · rw [getD_set_ne true hjk] at hun; exact hun
      refine wpOp_mono (fun a' w' h3 => ⟨fun _ _ => h3.2.1 hlj hS, ih (listed.setIfInBounds j true) a' w' hfree' (ready_mono hr (Ne.symm hji)) h3.1 (h3.2.1 hlj hS) ?_⟩) h2
      rw [Array.setIfInBounds_comm _ _ hji]
      exact h3.2.2

/-- One that yields its value in whatever world may be taken first, late or not. -/
theorem anyLate_firstW {i : Nat} {oi : Oper} {v : Value} (hi : ops[i]? = some oi) (hsel : ∀ (j : Nat) (o : Oper) cs b, ops[j]? = some o → o.op ≠ .select cs b)
    (hQ : ∀ c a w, Q (.panic c) (a.put oi.dst v) w → Q (.panic c) a w) :
    ∀ (fuel : Nat) (listed : Array Bool) (a : Act) (w : World),
      (∀ j oj, ops[j]? = some oj → j ≠ i → listed.getD j true = false → (∀ e ∈ oj.after, Region.binds md e = true → e.on ≠ i) → oi.apart ops oj = true) →
      i ∈ Region.ready md ops listed → YieldsIf P ops (fun _ => True) oi v a →
      anyLate P md ops Q S late fuel (listed.setIfInBounds i true) (a.put oi.dst v) w → anyLate P md ops Q S late (fuel + 1) listed a w := by
  intro fuel
  induction fuel with
  | zero =>
    intro listed a w _ hr hy H
    refine ⟨fun h => (by rw [h] at hr; cases hr), fun j hj => ?_⟩
    by_cases hji : j = i
    · subst hji; exact hy.wpOp hi trivial ⟨fun _ h => h, H⟩
    · have := ready_mono hj hji
      rw [H.1] at this
      cases this
  | succ fuel ih =>
    intro listed a w hfree hr hy H
    refine ⟨fun h => (by rw [h] at hr; cases hr), fun j hj => ?_⟩
    by_cases hji : j = i
    · subst hji; exact hy.wpOp hi trivial ⟨fun _ h => h, H⟩
    · have h1 := H.2 j (ready_mono hj hji)
      obtain ⟨hjun, oj, hoj, hall⟩ := mem_ready.1 hj
      have hnot : ∀ e ∈ oj.after, Region.binds md e = true → e.on ≠ i := fun e he hb heq => by
        have h1 := hall e he hb
        have h0 := (mem_ready.1 hr).1
        rw [heq] at h1
        rcases Nat.lt_or_ge i listed.size with h' | h'
        · simp [h'] at h0 h1; rw [h0] at h1; cases h1
        · simp [Array.getElem?_eq_none h'] at h1
      have h2 := wpOp_putIf hoj (hfree j oj hoj hji hjun hnot) (fun cs b => hsel i oi cs b hi) (fun cs b => hsel j oj cs b hoj) hQ hy h1
      have hfree' : ∀ k ok, ops[k]? = some ok → k ≠ i → (listed.setIfInBounds j true).getD k true = false →
          (∀ e ∈ ok.after, Region.binds md e = true → e.on ≠ i) → oi.apart ops ok = true := fun k ok hk hki hun hno => by
        refine hfree k ok hk hki ?_ hno
        by_cases hjk : j = k
        · subst hjk; exact hjun
        · rw [getD_set_ne true hjk] at hun; exact hun
      refine wpOp_mono (fun a' w' h3 => ⟨h3.2.1, ih (listed.setIfInBounds j true) a' w' hfree' (ready_mono hr (Ne.symm hji)) h3.1 ?_⟩) h2
      rw [Array.setIfInBounds_comm _ _ hji]
      exact h3.2.2

/-! ### The moves -/
/-- Does every late one wait for i? -/
def lateWait (md : Region.Mode) (ops : Array Oper) (late : Nat → Bool) (i : Nat) : Bool :=
  (List.range ops.size).all fun j => !late j || match ops[j]? with
    | some oj => oj.after.any fun e => Region.binds md e && e.on == i
    | none => true
theorem lateWait_spec {i : Nat} (h : lateWait md ops late i = true) : ∀ j oj, ops[j]? = some oj → late j = true → ∃ e ∈ oj.after, Region.binds md e = true ∧ e.on = i := fun j oj hj hl => by
  have hlt : j < ops.size := (Array.getElem?_eq_some_iff.1 hj).1
  have h1 := (List.all_eq_true.1 h) j (List.mem_range.2 hlt)
  simp only [hl, Bool.not_true, Bool.false_or, hj] at h1
  obtain ⟨e, he, hb⟩ := Array.any_eq_true'.1 h1
  simp only [Bool.and_eq_true, beq_iff_eq] at hb
  exact ⟨e, he, hb.1, hb.2⟩

theorem anyLate_take {i : Nat} {oi : Oper} {v : Value} {fuel : Nat} {listed : Array Bool} {a : Act} {w : World} (hi : ops[i]? = some oi)
    (hs : Region.noSelect ops = true) (hf : Region.free md ops listed i = true) (hr : (Region.ready md ops listed).contains i = true)
    (hQ : ∀ c a w, Q (.panic c) (a.put oi.dst v) w → Q (.panic c) a w) (hli : late i = false) (hlw : lateWait md ops late i = true) (hy : YieldsIf P ops S oi v a) (hS : S w)
    (h : anyLate P md ops Q S late fuel (listed.setIfInBounds i true) (a.put oi.dst v) w) : anyLate P md ops Q S late (fuel + 1) listed a w :=
  anyLate_first hi (Region.noSelect_spec hs) hQ hli (lateWait_spec hlw) fuel listed a w (Region.free_spec hi hf) (by simpa using hr) hy hS h
theorem anyLate_takeW {i : Nat} {oi : Oper} {v : Value} {fuel : Nat} {listed : Array Bool} {a : Act} {w : World} (hi : ops[i]? = some oi)
    (hs : Region.noSelect ops = true) (hf : Region.free md ops listed i = true) (hr : (Region.ready md ops listed).contains i = true)
    (hQ : ∀ c a w, Q (.panic c) (a.put oi.dst v) w → Q (.panic c) a w) (hy : YieldsIf P ops (fun _ => True) oi v a)
    (h : anyLate P md ops Q S late fuel (listed.setIfInBounds i true) (a.put oi.dst v) w) : anyLate P md ops Q S late (fuel + 1) listed a w :=
  anyLate_firstW hi (Region.noSelect_spec hs) hQ fuel listed a w (Region.free_spec hi hf) (by simpa using hr) hy h
theorem anyLate_all {rs : List Nat} {fuel : Nat} {listed : Array Bool} {a : Act} {w : World} (hr : Region.ready md ops listed = rs) (hne : rs ≠ [])
    (h : ∀ i ∈ rs, wpOp P ops Q i (fun a' w' => (late i = false → S w → S w') ∧ anyLate P md ops Q S late fuel (listed.setIfInBounds i true) a' w') a w) : anyLate P md ops Q S late (fuel + 1) listed a w :=
  ⟨fun h0 => absurd (hr ▸ h0) hne, hr ▸ h⟩
/-- Each of the operations 'rs' comes up next. -/
def AllLate (P : Program) (md : Region.Mode) (ops : Array Oper) (Q : Exit → Act → World → Prop) (S : World → Prop) (late : Nat → Bool) (fuel : Nat) (listed : Array Bool) (a : Act) (w : World) (rs : List Nat) : Prop :=
  ∀ i ∈ rs, wpOp P ops Q i (fun a' w' => (late i = false → S w → S w') ∧ anyLate P md ops Q S late fuel (listed.setIfInBounds i true) a' w') a w
theorem AllLate.nil {fuel : Nat} {listed : Array Bool} {a : Act} {w : World} : AllLate P md ops Q S late fuel listed a w [] := fun _ h => by cases h
theorem AllLate.cons {fuel : Nat} {listed : Array Bool} {a : Act} {w : World} {i : Nat} {o : Oper} {rs : List Nat} (ho : ops[i]? = some o)
    (h : ∀ K' : Act → World → Prop, Shut (∀ a' w', (late i = false → S w → S w') → anyLate P md ops Q S late fuel (listed.setIfInBounds i true) a' w' → K' a' w') → if Region.wanted o (yielded ops a.tmps) = true then Oper.wp P o a w K' Q else K' (a.put o.dst undef) w)
    (hs : AllLate P md ops Q S late fuel listed a w rs) : AllLate P md ops Q S late fuel listed a w (i :: rs) := fun j hj => by
  rcases List.mem_cons.1 hj with rfl | hj
  · exact wpOp_step ho (fun K' hK => h K' (fun a w hS hW => hK a w ⟨hS, hW⟩))
  · exact hs j hj
theorem anyLate_ready {rs : List Nat} {fuel : Nat} {listed : Array Bool} {a : Act} {w : World} (hr : Region.ready md ops listed = rs) (hne : rs ≠ [])
    (h : AllLate P md ops Q S late fuel listed a w rs) : anyLate P md ops Q S late (fuel + 1) listed a w := anyLate_all hr hne h
theorem anyLate_done {listed : Array Bool} {a : Act} {w : World} (hr : Region.ready md ops listed = []) (h : Q .normal a w) :
    ∀ fuel, anyLate P md ops Q S late fuel listed a w
  | 0 => ⟨hr, h⟩
  | _ + 1 => ⟨fun _ => h, by rw [hr]; simp⟩
theorem region_late {id : Nat} {a : Act} {w : World} (hm : P.follows .mixedOrders = true)
    (h : anyLate P .any ops Q S late ops.size (Array.replicate ops.size false) a w.drew) : (Code.region id ops true).wp P Q a w :=
  wp_region_any hm (anyLate_any _ _ _ _ h)
end
end Go.Proofs.Ybulkamjs
