/- matcherOf. -/
import Derived.Test.YbulkamrgTm
namespace Go.Proofs.Ybulkamrg
open Go.RowKit Go.Maps Go.WideMaps

/-- Keys without repeats, each held: no more than are held; all of them: just as many. -/
theorem keys_le (f : Nat → Option ByteArray) : ∀ (p : Nat) (ks : List Nat), ks.Nodup → (∀ k, k ∈ ks → k < p ∧ (f k).isSome = true) → ks.length ≤ cnt6 f p
  | 0, ks, _, h => by
    cases ks with
    | nil => simp
    | cons k r => exact absurd (h k (by simp)).1 (by omega)
  | p + 1, ks, hn, h => by
    rw [cnt6]
    by_cases hp : p ∈ ks
    · have h1 := keys_le f p (ks.erase p) (hn.erase p) (fun k hk => by
        have hk' := (List.Nodup.mem_erase_iff hn).1 hk
        have := h k hk'.2
        exact ⟨by have := this.1; omega, this.2⟩)
      have h2 : (ks.erase p).length = ks.length - 1 := List.length_erase_of_mem hp
      have h3 : 0 < ks.length := List.length_pos_of_mem hp
      rw [if_pos (h p hp).2]
      omega
    · have h1 := keys_le f p ks hn (fun k hk => ⟨by have := (h k hk).1; rcases Nat.lt_or_ge k p with h' | h'; exact h'; exact absurd (by rw [show p = k by omega]; exact hk) hp, (h k hk).2⟩)
      omega
theorem keys_ge (f : Nat → Option ByteArray) : ∀ (p : Nat) (ks : List Nat), (∀ k, k < p → (f k).isSome = true → k ∈ ks) → cnt6 f p ≤ ks.length
  | 0, _, _ => by simp [cnt6]
  | p + 1, ks, h => by
    rw [cnt6]
    cases hp : (f p).isSome with
    | false => simp only [Bool.false_eq_true, if_false]; exact keys_ge f p ks (fun k hk hs => h k (by omega) hs)
    | true =>
      have hm := h p (by omega) hp
      have h1 := keys_ge f p (ks.erase p) (fun k hk hs => (List.mem_erase_of_ne (by omega)).2 (h k (by omega) hs))
      have h2 : (ks.erase p).length = ks.length - 1 := List.length_erase_of_mem hm
      have h3 : 0 < ks.length := List.length_pos_of_mem hm
      simp only [if_true]
      omega

/-- What matcherOf returns. -/
def TmArr (w : World) (M : Array Value) (f : Nat → Option ByteArray) : Prop := M.size = 10 ∧ (∀ v, v ∈ M → v.oneCell' = true) ∧
  ((cnt6 f 6 ≤ 4 ∧ ∃ ps, Pairs ps f ∧ ps.length = cnt6 f 6 ∧ M[9]? = some (.map none) ∧ M[8]? = some (.int .i64 (ps.length : Nat)) ∧
      ∀ (j : Nat) (p : Nat × ByteArray), ps[j]? = some p → M[j * 2]? = some (.string (ks p.1)) ∧ M[j * 2 + 1]? = some (.string p.2)) ∨
    (4 < cnt6 f 6 ∧ M[8]? = some (.int .i64 0) ∧ ∃ m N D, M[9]? = some (.map (some m)) ∧ w.ownsMap Yba.prog 9 (plainElem Yba.prog 9) m N D ∧ FD D f))

abbrev Z10 : Array Value := #[.string ⟨#[]⟩, .string ⟨#[]⟩, .string ⟨#[]⟩, .string ⟨#[]⟩, .string ⟨#[]⟩, .string ⟨#[]⟩, .string ⟨#[]⟩, .string ⟨#[]⟩, .int .i64 0, .map none]

set_option maxRecDepth 20000 in
set_option maxHeartbeats 4000000 in
theorem of_set (m N : Nat) (D : DataW Unit) (f : Nat → Option ByteArray) (w : World) (hm : w.ownsMap Yba.prog 9 (plainElem Yba.prog 9) m N D) (hF : FD D f) (h4 : 4 < cnt6 f 6) :
    Calls Yba.prog 12 #[.map (some m)] w fun e w' => ∃ M, e = .returned (.agg M) ∧ TmArr w' M f ∧ Below w.heap.size w w' := by
  have hln := ((hm.alloc (.cells Z10 57 (0, 0))).alloc (.cells Z10 57 (0, 0))).len Yba.underlying46 3
  rw [hF.size] at hln
  have Hm : Hid (w.ownsMap Yba.prog 9 (plainElem Yba.prog 9) m N D) := hm
  have HF : Hid (FD D f) := hF
  clear hm hF
  have h4' : (4 : Int) < (cnt6 f 6 : Int) := by omega
  go_enter Yba.func12, Yba.ntmps12
  go_wp2
  refine bodyPost_ret (v := .agg #[.string ⟨#[]⟩, .string ⟨#[]⟩, .string ⟨#[]⟩, .string ⟨#[]⟩, .string ⟨#[]⟩, .string ⟨#[]⟩, .string ⟨#[]⟩, .string ⟨#[]⟩, .int .i64 0, .map (some m)]) ?_ rfl ⟨_, rfl, ⟨rfl, ?_, .inr ⟨h4, rfl, m, N, D, rfl, ?_, HF.out⟩⟩, ?_⟩
  · simp [results, Yba.results12, go_sem]
  · intro v hv
    simp only [List.mem_toArray, List.mem_cons, List.not_mem_nil, or_false] at hv
    rcases hv with h | h | h | h | h | h | h | h | h | h <;> subst h <;> rfl
  · exact (Hm.out.alloc _).alloc _
  · exact ((Below.refl _ _).alloc (Nat.le_refl _) _).alloc (by simp) _

/-- What has been gathered of the map so far. -/
structure PI (ps : List (Nat × ByteArray)) (left : Lit → Bool) (f : Nat → Option ByteArray) : Prop where
  ok : ∀ p, p ∈ ps → p.1 < 6 ∧ f p.1 = some p.2 ∧ left (kL p.1) = false
  cover : ∀ i, i < 6 → (f i).isSome = true → left (kL i) = true ∨ ∃ p, p ∈ ps ∧ p.1 = i
  nd : (ps.map (·.1)).Nodup
theorem PI.le {ps : List (Nat × ByteArray)} {left : Lit → Bool} {f : Nat → Option ByteArray} (h : PI ps left f) : ps.length ≤ cnt6 f 6 := by
  have := keys_le f 6 (ps.map (·.1)) h.nd (fun k hk => by
    obtain ⟨p, hp, rfl⟩ := List.mem_map.1 hk
    exact ⟨(h.ok p hp).1, by rw [(h.ok p hp).2.1]; rfl⟩)
  simpa using this
theorem PI.snoc {ps : List (Nat × ByteArray)} {left : Lit → Bool} {f : Nat → Option ByteArray} (h : PI ps left f) {i : Nat} {v : ByteArray} (hi : i < 6) (hv : f i = some v) (hl : left (kL i) = true) :
    PI (ps ++ [(i, v)]) (fun z => left z && !z.sameKey (kL i)) f := by
  refine ⟨fun p hp => ?_, fun j hj hs => ?_, ?_⟩
  · rw [List.mem_append] at hp
    rcases hp with hp | hp
    · have := h.ok p hp
      exact ⟨this.1, this.2.1, by simp only [this.2.2, Bool.false_and]⟩
    · have : p = (i, v) := by simpa using hp
      subst this
      refine ⟨hi, hv, ?_⟩
      simp only [WideAt.sameKey_self (kL_key i), Bool.not_true, Bool.and_false]
  · by_cases e : j = i
    · subst e; exact .inr ⟨(j, v), by simp, rfl⟩
    · rcases h.cover j hj hs with h1 | ⟨p, hp, he⟩
      · left
        simp only [h1, Bool.true_and, Bool.not_eq_true']
        exact sameKey_ne (kL_ne hj hi e)
      · exact .inr ⟨p, by simp [hp], he⟩
  · rw [List.map_append, List.nodup_append]
    refine ⟨h.nd, by simp, fun a ha b hb => ?_⟩
    have hb' : b = i := by simpa using hb
    subst hb'
    rintro rfl
    obtain ⟨p, hp, he⟩ := List.mem_map.1 ha
    have := (h.ok p hp).2.2
    rw [he, hl] at this
    cases this
/-- .. and where it lies. -/
def CI (C : Array Value) (ps : List (Nat × ByteArray)) : Prop := C.size = 10 ∧ C[9]? = some (.map none) ∧ C[8]? = some (.int .i64 (ps.length : Nat)) ∧
  ∀ (j : Nat) (p : Nat × ByteArray), ps[j]? = some p → C[j * 2]? = some (.string (ks p.1)) ∧ C[j * 2 + 1]? = some (.string p.2)
theorem CI.snoc {C : Array Value} {ps : List (Nat × ByteArray)} (h : CI C ps) (hl : ps.length < 4) (i : Nat) (v : ByteArray) :
    CI (((C.setIfInBounds (ps.length * 2) (.string (ks i))).setIfInBounds (ps.length * 2 + 1) (.string v)).setIfInBounds 8 (.int .i64 ((ps.length : Int) + 1))) (ps ++ [(i, v)]) := by
  obtain ⟨h1, h2, h3, h4⟩ := h
  refine ⟨by simpa using h1, ?_, ?_, fun j p hp => ?_⟩
  · rw [Array.getElem?_setIfInBounds, if_neg (by omega), Array.getElem?_setIfInBounds, if_neg (by omega), Array.getElem?_setIfInBounds, if_neg (by omega)]; exact h2
  · rw [Array.getElem?_setIfInBounds, if_pos rfl, if_pos (by simp [h1])]; simp
  · by_cases e : j = ps.length
    · subst e
      have hp' : p = (i, v) := by simpa using hp.symm
      subst hp'
      constructor
      · rw [Array.getElem?_setIfInBounds, if_neg (by omega), Array.getElem?_setIfInBounds, if_neg (by omega), Array.getElem?_setIfInBounds, if_pos rfl, if_pos (by omega)]
      · rw [Array.getElem?_setIfInBounds, if_neg (by omega), Array.getElem?_setIfInBounds, if_pos rfl, if_pos (by simp; omega)]
    · have hj : j < ps.length := by
        have := (List.getElem?_eq_some_iff.1 hp).1
        simp at this; omega
      rw [List.getElem?_append_left hj] at hp
      obtain ⟨q1, q2⟩ := h4 j p hp
      constructor
      · rw [Array.getElem?_setIfInBounds, if_neg (by omega), Array.getElem?_setIfInBounds, if_neg (by omega), Array.getElem?_setIfInBounds, if_neg (by omega)]; exact q1
      · rw [Array.getElem?_setIfInBounds, if_neg (by omega), Array.getElem?_setIfInBounds, if_neg (by omega), Array.getElem?_setIfInBounds, if_neg (by omega)]; exact q2

end Go.Proofs.Ybulkamrg
