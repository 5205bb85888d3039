/- Lists of what the law's loops have made; the queue's functions read off them. -/
import Derived.Test.YbulkamjsMake
import Derived.Test.YbulkamjsUSort
import Derived.Laws.AppendOwn
namespace Go.Proofs.Ybulkamjs
open Go.RowKit Go.Maps Go.WideMaps
set_option linter.unusedVariables false

/-- An item: its block, the block of its slice under its key, its time, its value's length, what it holds. -/
structure Rec where
  b : Nat
  sl : Nat
  d : Nat
  sz : Nat
  A : Array Value
def rec0 : Rec := ⟨0, 0, 0, 0, #[]⟩
def RInj (its : List Rec) : Prop := ∀ (i j : Nat) (r r' : Rec), its[i]? = some r → its[j]? = some r' → r.b = r'.b → i = j
theorem find_rec {its : List Rec} (hinj : RInj its) {k : Nat} {r : Rec} (h : its[k]? = some r) : its.find? (fun q => q.b == r.b) = some r := by
  cases hf : its.find? (fun q => q.b == r.b) with
  | none => exact absurd (List.find?_eq_none.1 hf r (List.mem_of_getElem? h)) (by simp)
  | some r' =>
    have h1 : r'.b = r.b := by simpa using List.find?_some hf
    obtain ⟨k', hk'⟩ := List.getElem?_of_mem (List.mem_of_find?_eq_some hf)
    have := hinj k' k r' r hk' h h1
    subst this
    rw [h] at hk'
    rw [Option.some.inj hk']
def fF (its : List Rec) (k : Nat) : Nat := (its.getD k rec0).b
def rF (its : List Rec) (b : Nat) : Rec := (its.find? (fun q => q.b == b)).getD rec0
theorem fF_at {its : List Rec} {k : Nat} {r : Rec} (h : its[k]? = some r) : fF its k = r.b := by
  simp [fF, List.getD_eq_getElem?_getD, h]
theorem rF_at {its : List Rec} (hinj : RInj its) {k : Nat} {r : Rec} (h : its[k]? = some r) : rF its (fF its k) = r := by
  rw [fF_at h, rF, find_rec hinj h]; rfl
theorem get_rec {its : List Rec} {k : Nat} (h : k < its.length) : ∃ r, its[k]? = some r := ⟨_, List.getElem?_eq_getElem h⟩
theorem RInj.snoc {its : List Rec} {r : Rec} (h : RInj its) (hn : ∀ (k : Nat) (q : Rec), its[k]? = some q → q.b ≠ r.b) : RInj (its ++ [r]) := by
  intro i j a b ha hb e
  have lt : ∀ {k : Nat} {q : Rec}, (its ++ [r])[k]? = some q → (k < its.length ∧ its[k]? = some q) ∨ (k = its.length ∧ q = r) := fun {k q} hk => by
    rcases Nat.lt_or_ge k its.length with h1 | h1
    · rw [List.getElem?_append_left h1] at hk; exact .inl ⟨h1, hk⟩
    · rw [List.getElem?_append_right h1] at hk
      have h2 : k - its.length = 0 := by
        rcases Nat.eq_zero_or_pos (k - its.length) with h | h
        · exact h
        · rw [List.getElem?_eq_none (by simp; omega)] at hk; cases hk
      rw [h2] at hk
      exact .inr ⟨by omega, by simpa using hk.symm⟩
  rcases lt ha with ⟨h1, h2⟩ | ⟨h1, h2⟩ <;> rcases lt hb with ⟨h3, h4⟩ | ⟨h3, h4⟩
  · exact h i j a b h2 h4 e
  · subst h4; exact absurd e (hn i a h2)
  · subst h2; exact absurd e.symm (hn j b h4)
  · omega
theorem snoc_get {its : List Rec} {r q : Rec} {k : Nat} (h : (its ++ [r])[k]? = some q) : (k < its.length ∧ its[k]? = some q) ∨ (k = its.length ∧ q = r) := by
  rcases Nat.lt_or_ge k its.length with h1 | h1
  · rw [List.getElem?_append_left h1] at h; exact .inl ⟨h1, h⟩
  · rw [List.getElem?_append_right h1] at h
    have h2 : k - its.length = 0 := by
      rcases Nat.eq_zero_or_pos (k - its.length) with h' | h'
      · exact h'
      · rw [List.getElem?_eq_none (by simp; omega)] at h; cases h
    rw [h2] at h
    exact .inr ⟨by omega, by simpa using h.symm⟩
/-- The queue of such items. -/
theorem qu_of {tp ti io : Nat} {w : World} {base cap : Nat} {q : Value} {its : List Rec} (hinj : RInj its) (hq : w.ownsRow base tp 1 q its.length (its.map fun r => .pointer (some ⟨r.b, 0, none⟩)))
    (hit : ∀ (k : Nat) (r : Rec), its[k]? = some r → w.heap[r.b]? = some (.cells r.A ti (0, 0)) ∧ r.d < 65536 ∧ io < r.A.size ∧ r.A[0]? = some (.int .u64 (r.d : Nat)) ∧ r.A[1]? = some (.int .i64 0) ∧ r.A[2]? = some (.pointer none) ∧ r.A[io]? = some (.int .i64 (k : Nat)))
    (hne : ∀ (k : Nat) (r : Rec), its[k]? = some r → some r.b ≠ q.ownBlock) :
    ∃ (qa : Option Addr) (bk cap : Nat), q = .slice qa its.length cap ∧ (0 < its.length → qa = some ⟨bk, 0, none⟩ ∧ base ≤ bk) ∧ its.length ≤ cap ∧ cap ≤ maxLen ∧ Qu tp ti io (fun b => (rF its b).A) (fun b => (rF its b).d) w bk its.length (fF its) := by
  have mk : ∀ bk, (0 < its.length → ∃ C, w.heap[bk]? = some (.cells C tp (0, 0)) ∧ its.length ≤ C.size ∧ ∀ k, k < its.length → C[k]? = some (.pointer (some ⟨fF its k, 0, none⟩))) → (0 < its.length → q.ownBlock = some bk) →
      Qu tp ti io (fun b => (rF its b).A) (fun b => (rF its b).d) w bk its.length (fF its) := fun bk hb ho => by
    refine ⟨hb, fun k hk => ?_, fun k hk => ?_, fun i j hi hj e => ?_, fun k hk => ?_⟩
    · obtain ⟨r, hr⟩ := get_rec hk
      rw [rF_at hinj hr, fF_at hr]
      obtain ⟨h1, _, h3, _, _, _, h7⟩ := hit k r hr
      rw [set_same h7]; exact h1
    · obtain ⟨r, hr⟩ := get_rec hk
      rw [rF_at hinj hr]
      obtain ⟨h1, h2, h3, h4, h5, h6, h7⟩ := hit k r hr
      exact ⟨h2, h3, h4, h5, h6⟩
    · obtain ⟨r, hr⟩ := get_rec hi
      obtain ⟨r', hr'⟩ := get_rec hj
      rw [fF_at hr, fF_at hr'] at e
      exact hinj i j r r' hr hr' e
    · obtain ⟨r, hr⟩ := get_rec hk
      rw [fF_at hr]
      intro e
      exact hne k r hr (by rw [ho (by omega), e])
  obtain ⟨hl, ⟨rfl, h0⟩ | ⟨g, cap, cur, rfl, hb, hg, hc1, hc2, hc3, hc4⟩⟩ := hq
  · refine ⟨none, 0, 0, by rw [h0], fun h => by omega, by omega, by simp [maxLen], mk 0 (fun h => by omega) (fun h => by omega)⟩
  · refine ⟨some ⟨g, 0, none⟩, g, cap, rfl, fun _ => ⟨rfl, hb⟩, hc1, hc2, mk g (fun _ => ⟨cur, hg, by omega, fun k hk => ?_⟩) (fun _ => rfl)⟩
    obtain ⟨r, hr⟩ := get_rec hk
    rw [fF_at hr]
    have h1 : (cur.toList.take (its.length * 1))[k]? = some (.pointer (some ⟨r.b, 0, none⟩)) := by rw [hc4, List.getElem?_map, hr]; rfl
    rw [List.getElem?_take, if_pos (by omega)] at h1
    simpa using h1
/-- The times ascend: so the order is the heap's. -/
theorem heap_of {its : List Rec} (hinj : RInj its) (hs : ∀ (i j : Nat) (r r' : Rec), i ≤ j → its[i]? = some r → its[j]? = some r' → r.d ≤ r'.d) : HeapO (fun b => (rF its b).d) (fF its) its.length := by
  intro c h0 hc
  obtain ⟨r, hr⟩ := get_rec hc
  obtain ⟨r', hr'⟩ := get_rec (show (c - 1) / 2 < its.length by omega)
  show (rF its (fF its ((c - 1) / 2))).d ≤ (rF its (fF its c)).d
  rw [rF_at hinj hr, rF_at hinj hr']
  exact hs _ _ r' r (by omega) hr' hr
end Go.Proofs.Ybulkamjs
