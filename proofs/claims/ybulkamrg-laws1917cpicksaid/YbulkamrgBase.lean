/- What the walks of LawS1917CPick share: which blocks a call leaves, byte slices that came in, the little maps of tags. -/
import Derived.Test.YbulkamrgStr
import Derived.Maps.OwnSet
import Derived.Maps.Views
import Derived.Maps.RangeWalk
import Derived.Maps.StringElems
import Derived.StillTactics
import Derived.LoopN
namespace Go.Proofs.Ybulkamrg
open Go.RowKit Go.Maps Go.WideMaps

theorem lt_of_heap {w : World} {b : Nat} {o : Obj} (h : w.heap[b]? = some o) : b < w.heap.size := by
  rcases Nat.lt_or_ge b w.heap.size with h' | h'
  · exact h'
  · rw [Array.getElem?_eq_none h'] at h; cases h
theorem cell_lt {w : World} {a : Addr} {v : Value} (h : w.cell? a = some v) : a.block < w.heap.size := by
  rcases Nat.lt_or_ge a.block w.heap.size with h' | h'
  · exact h'
  · simp [World.cell?, Array.getElem?_eq_none h'] at h

/-- A call that leaves what was there. -/
theorem Below.cellAt {w w' : World} (h : Below w.heap.size w w') {p : Addr} {v : Value} (hc : w.cell? p = some v) : w'.cell? p = some v := (h.cell (cell_lt hc)).trans hc
theorem Below.grown {B : Nat} {w w' : World} {row : Option Nat} (h : w.grownBy w' row) (hB : B ≤ w.heap.size) (hr : ∀ k, row = some k → B ≤ k) : Below B w w' :=
  ⟨h.os, h.tape, h.output, h.size, fun k hk => h.block k (by omega) (fun e => by have := hr k e.symm; omega)⟩
theorem Below.less {B B' : Nat} {w w' : World} (h : Below B w w') (hB : B' ≤ B) : Below B' w w' := ⟨h.os, h.tape, h.output, h.size, fun k hk => h.block k (by omega)⟩

/-- A slice of bytes that came in. -/
def Bytes (w : World) (a : Option Addr) (bs : List Nat) : Prop := ∀ (i b : Nat), bs[i]? = some b → b < 256 ∧ ∃ x, a = some x ∧ w.cell? (x.add i) = some (.int .u8 b)
theorem Bytes.keep {w w' : World} {a : Option Addr} {bs : List Nat} (h : Bytes w a bs) (hB : Below w.heap.size w w') : Bytes w' a bs := fun i b hb => by
  obtain ⟨h1, x, h2, h3⟩ := h i b hb
  exact ⟨h1, x, h2, Below.cellAt hB h3⟩

/-! ### The maps of tags: at most six keys -/
def kL (i : Nat) : Lit := .string (ks i).data.toList
theorem ks_size (i : Nat) : (ks i).size = 1 := by unfold ks; split <;> rfl
theorem key_of (i : Nat) : keyOf Yba.prog 9 (.string (ks i)) = some (kL i) := by
  have h := ks_size i
  simp [keyOf, Yba.underlying9, mapKey, kL, h, maxLen]
theorem keyed9 : Keyed Yba.prog 9 := string_keyed Yba.underlying9
theorem ks_inj {i j : Nat} (hi : i < 6) (hj : j < 6) (h : ks i = ks j) : i = j := by
  have h1 : i = 0 ∨ i = 1 ∨ i = 2 ∨ i = 3 ∨ i = 4 ∨ i = 5 := by omega
  have h2 : j = 0 ∨ j = 1 ∨ j = 2 ∨ j = 3 ∨ j = 4 ∨ j = 5 := by omega
  rcases h1 with e | e | e | e | e | e <;> rcases h2 with e' | e' | e' | e' | e' | e' <;> subst e <;> subst e' <;> first | rfl | (exact absurd h (by simp [ks]))
theorem kL_ne {i j : Nat} (hi : i < 6) (hj : j < 6) (h : i ≠ j) : kL i ≠ kL j := fun e => h (ks_inj hi hj (by
  have := keyed9.inj (key_of i) (by rw [e]; exact key_of j)
  injection this))
theorem kL_key (i : Nat) : WideAt.IsKeyLit (kL i) := keyed9.key (key_of i)

/-- How many of the six are there. -/
def cnt6 (f : Nat → Option ByteArray) : Nat → Nat
  | 0 => 0
  | p + 1 => cnt6 f p + if (f p).isSome then 1 else 0
def updF (f : Nat → Option ByteArray) (i : Nat) (v : ByteArray) : Nat → Option ByteArray := fun j => if j = i then some v else f j
theorem cnt6_upd (f : Nat → Option ByteArray) (i : Nat) (v : ByteArray) : ∀ p, cnt6 (updF f i v) p = cnt6 f p + if i < p ∧ (f i).isSome = false then 1 else 0
  | 0 => by simp [cnt6]
  | p + 1 => by
    rw [cnt6, cnt6, cnt6_upd f i v p]
    by_cases e : p = i
    · subst e
      rw [if_neg (by omega)]
      simp only [updF, if_pos]
      cases h : (f p).isSome <;> simp
    · have : updF f i v p = f p := if_neg e
      rw [this]
      by_cases h : i < p
      · have h2 : i < p + 1 := by omega
        simp only [h, h2, true_and]; omega
      · have h2 : ¬ i < p + 1 := by omega
        simp only [h, h2, false_and]; simp

/-- The map D holds just what f says of the six keys. -/
structure FD (D : DataW Unit) (f : Nat → Option ByteArray) : Prop where
  has : ∀ i, i < 6 → Maps.has D (kL i) = (f i).isSome
  at_ : ∀ i v z, i < 6 → f i = some v → D.atKey (kL i) z = .lit (.string v.data.toList)
  keys : ∀ l, Maps.has D l = true → ∃ i, i < 6 ∧ l = kL i
  size : Maps.size D = cnt6 f 6
theorem FD.empty : FD (.map []) (fun _ => none) where
  has := fun _ _ => rfl
  at_ := fun _ _ _ _ h => by cases h
  keys := fun l h => by simp [Maps.has] at h
  size := rfl
theorem FD.put {D : DataW Unit} {f : Nat → Option ByteArray} (h : FD D f) (hm : IsMap D) (ht : Tidy D) {i : Nat} (hi : i < 6) (v : ByteArray) : FD (D.put (kL i) (.lit (.string v.data.toList))) (updF f i v) := by
  refine ⟨fun j hj => ?_, fun j v' z hj hf => ?_, fun l hl => ?_, ?_⟩
  · by_cases e : j = i
    · subst e; rw [has_put_same hm (kL_key j)]; simp [updF]
    · rw [has_put_other (kL_ne hj hi e), h.has j hj, updF, if_neg e]
  · by_cases e : j = i
    · subst e
      rw [atKey_put_same hm (kL_key j)]
      simp [updF] at hf
      rw [hf]
    · rw [atKey_put_other (kL_ne hj hi e)]
      exact h.at_ j v' z hj (by rw [updF, if_neg e] at hf; exact hf)
  · by_cases e : l = kL i
    · exact ⟨i, hi, e⟩
    · rw [has_put_other e] at hl
      exact h.keys l hl
  · rw [size_put ht, h.has i hi, h.size, cnt6_upd]
    cases (f i).isSome <;> simp [hi]

/-- A map's value in the world w. -/
def MapF (w : World) (v : Value) (f : Nat → Option ByteArray) : Prop :=
  (v = .map none ∧ ∀ i, f i = none) ∨ ∃ m N D, v = .map (some m) ∧ w.ownsMap Yba.prog 9 (plainElem Yba.prog 9) m N D ∧ FD D f
theorem ownsMap_heap {w w' : World} {P : Program} {k : TypeId} {R : Value → Option (DataW Unit × List MemPlace)} {b n : Nat} {D : DataW Unit} (h : w.ownsMap P k R b n D) (he : w'.heap[b]? = w.heap[b]?) : w'.ownsMap P k R b n D := by
  obtain ⟨es, clock, hb, r⟩ := h
  exact ⟨es, clock, he.trans hb, r⟩
theorem MapF.keep {w w' : World} {v : Value} {f : Nat → Option ByteArray} (h : MapF w v f) (hB : Below w.heap.size w w') : MapF w' v f := by
  rcases h with h | ⟨m, N, D, rfl, h1, h2⟩
  · exact .inl h
  · exact .inr ⟨m, N, D, rfl, ownsMap_heap h1 (hB.block m h1.lt), h2⟩

/-- What a look-up finds. -/
def got (o : Option ByteArray) : ByteArray := o.getD ⟨#[]⟩
theorem zero9 (w : World) : (zeroValue 9).run Yba.prog w = .ok (.string ⟨#[]⟩) w := by kernel_rfl
theorem byteArray_data {s t : ByteArray} (h : s.data.toList = t.data.toList) : s = t := by
  cases s; cases t; simp at h; congr
theorem MapF.look {w : World} {v : Value} {f : Nat → Option ByteArray} (h : MapF w v f) {i : Nat} (hi : i < 6) {t : TypeId} (ht : Yba.prog.underlying t = some (.map 9 9)) :
    (Instr.lookup t v (.string (ks i)) true).run Yba.prog w = .ok (.tuple #[.string (got (f i)), .bool (f i).isSome]) w := by
  rcases h with ⟨rfl, h⟩ | ⟨m, N, D, rfl, h1, h2⟩
  · rw [h i]
    have hc := keyed9.check w true (key_of i)
    have hf : (Instr.findKey 9 (.string (ks i)) []).run Yba.prog w = .ok none w := by
      rcases keyed9.find w (key_of i) [] (by simp) with h | ⟨j, e, _, he, _⟩
      · exact h.1
      · simp at he
    simp [Instr.lookup, run_underlying ht, got, hc, hf, Result.andThen]
  · obtain ⟨u, ps, hlk, hu⟩ := h1.look_ok keyed9 ht (zero9 _) (plainElem_string Yba.underlying9 (Nat.zero_le _)) (key_of i)
    rw [hlk, h2.has i hi]
    obtain ⟨s, rfl, hs, _⟩ := plainElem_string_inv Yba.underlying9 hu
    have e1 : D.atKey (kL i) (.lit (.string (ByteArray.mk #[]).data.toList)) = .lit (.string s.data.toList) := congrArg Prod.fst hs
    have e2 : s = got (f i) := by
      cases hf : f i with
      | none =>
        rw [atKey_of_not_has (by rw [h2.has i hi, hf]; rfl)] at e1
        simp only [DataW.lit.injEq, Lit.string.injEq] at e1
        exact (byteArray_data e1).symm
      | some v =>
        rw [h2.at_ i v _ hi hf] at e1
        simp only [DataW.lit.injEq, Lit.string.injEq] at e1
        exact (byteArray_data e1).symm
    rw [e2]
theorem MapF.look1 {w : World} {v : Value} {f : Nat → Option ByteArray} (h : MapF w v f) {i : Nat} (hi : i < 6) {t : TypeId} (ht : Yba.prog.underlying t = some (.map 9 9)) :
    (Instr.lookup t v (.string (ks i)) false).run Yba.prog w = .ok (.string (got (f i))) w := by
  rcases h with ⟨rfl, h⟩ | ⟨m, N, D, rfl, h1, h2⟩
  · rw [h i]
    have hc := keyed9.check w true (key_of i)
    have hf : (Instr.findKey 9 (.string (ks i)) []).run Yba.prog w = .ok none w := by
      rcases keyed9.find w (key_of i) [] (by simp) with h | ⟨j, e, _, he, _⟩
      · exact h.1
      · simp at he
    simp [Instr.lookup, run_underlying ht, got, hc, hf, Result.andThen]
  · obtain ⟨u, ps, hlk, hu⟩ := h1.lookup keyed9 ht (zero9 _) (plainElem_string Yba.underlying9 (Nat.zero_le _)) (key_of i)
    obtain ⟨s, rfl, hs, _⟩ := plainElem_string_inv Yba.underlying9 hu
    rw [hlk]
    have e1 : D.atKey (kL i) (.lit (.string (ByteArray.mk #[]).data.toList)) = .lit (.string s.data.toList) := congrArg Prod.fst hs
    have e2 : s = got (f i) := by
      cases hf : f i with
      | none =>
        rw [atKey_of_not_has (by rw [h2.has i hi, hf]; rfl)] at e1
        simp only [DataW.lit.injEq, Lit.string.injEq] at e1
        exact (byteArray_data e1).symm
      | some v =>
        rw [h2.at_ i v _ hi hf] at e1
        simp only [DataW.lit.injEq, Lit.string.injEq] at e1
        exact (byteArray_data e1).symm
    rw [e2]

/-- The map that the law builds of bytes. -/
def fOf (bs : List Nat) : Nat → Option ByteArray := bs.foldl (fun f b => updF f (b % 6) (vs (b / 6 % 2))) (fun _ => none)
theorem fOf_snoc (bs : List Nat) (b : Nat) : fOf (bs ++ [b]) = updF (fOf bs) (b % 6) (vs (b / 6 % 2)) := by simp [fOf, List.foldl_append]
theorem fOf_some (bs : List Nat) : ∀ i, ((fOf bs) i).isSome = true ↔ ∃ b ∈ bs, b % 6 = i := by
  have key : ∀ n, ∀ bs : List Nat, bs.length = n → ∀ i, ((fOf bs) i).isSome = true ↔ ∃ b ∈ bs, b % 6 = i := by
    intro n
    induction n with
    | zero =>
      intro bs h i
      rw [List.length_eq_zero_iff.1 h]
      simp [fOf]
    | succ n ih =>
      intro bs h i
      rcases List.eq_nil_or_concat bs with e | ⟨bs0, b, e⟩
      · rw [e] at h; simp at h
      · rw [List.concat_eq_append] at e
        subst e
        rw [fOf_snoc, updF]
        have ih' := ih bs0 (by simpa using h) i
        by_cases e : i = b % 6
        · simp [e]
        · rw [if_neg e, ih']
          constructor
          · rintro ⟨c, hc, h2⟩; exact ⟨c, by simp [hc], h2⟩
          · rintro ⟨c, hc, h2⟩
            rw [List.mem_append] at hc
            rcases hc with hc | hc
            · exact ⟨c, hc, h2⟩
            · have : c = b := by simpa using hc
              subst this; exact absurd h2.symm e
  exact fun i => key bs.length bs rfl i
theorem vs_size (i : Nat) : (vs i).size ≤ maxLen := by unfold vs; split <;> simp [maxLen] <;> decide
end Go.Proofs.Ybulkamrg
