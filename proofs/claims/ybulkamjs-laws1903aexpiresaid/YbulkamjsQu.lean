/- A timedQueue in memory, and the heap's order: the plain part. -/
import Derived.Test.YbulkamjsDir
import Derived.Test.YbulkamjsTimeW
import Derived.Test.YbulkamjsLate
namespace Go.Proofs.Ybulkamjs
open Go.RowKit Go.Maps Go.WideMaps
set_option linter.unusedVariables false

/-- Two places change. -/
def sw (f : Nat → Nat) (i j : Nat) : Nat → Nat := fun k => if k = i then f j else if k = j then f i else f k
theorem sw_i (f : Nat → Nat) (i j : Nat) : sw f i j i = f j := if_pos rfl
theorem sw_j (f : Nat → Nat) (i j : Nat) : sw f i j j = f i := by
  unfold sw; by_cases h : j = i
  · rw [if_pos h, h]
  · rw [if_neg h, if_pos rfl]
theorem sw_o (f : Nat → Nat) {i j k : Nat} (hi : k ≠ i) (hj : k ≠ j) : sw f i j k = f k := by unfold sw; rw [if_neg hi, if_neg hj]
theorem sw_in (f : Nat → Nat) {i j n : Nat} (hi : i < n) (hj : j < n) (k : Nat) (hk : k < n) : ∃ k', k' < n ∧ sw f i j k = f k' := by
  by_cases h1 : k = i
  · subst h1; exact ⟨j, hj, sw_i f k j⟩
  · by_cases h2 : k = j
    · subst h2; exact ⟨i, hi, sw_j f i k⟩
    · exact ⟨k, hk, sw_o f h1 h2⟩
theorem sw_inj {f : Nat → Nat} {i j n : Nat} (h : ∀ a b, a < n → b < n → f a = f b → a = b) (hi : i < n) (hj : j < n) : ∀ a b, a < n → b < n → sw f i j a = sw f i j b → a = b := by
  intro a b ha hb e
  unfold sw at e
  split at e <;> split at e <;> (try split at e) <;> (try split at e) <;> (have := h _ _ ?_ ?_ e <;> first | omega | assumption)

/-- A weight, summed over the first n. -/
def sumF (g : Nat → Nat) (f : Nat → Nat) : Nat → Nat
  | 0 => 0
  | n + 1 => sumF g f n + g (f n)
theorem sumF_congr {g f f' : Nat → Nat} : ∀ {n : Nat}, (∀ k, k < n → f' k = f k) → sumF g f' n = sumF g f n
  | 0, _ => rfl
  | n + 1, h => by rw [sumF, sumF, sumF_congr (fun k hk => h k (by omega)), h n (by omega)]
/-- One place is given another value. -/
theorem sumF_set {g f f' : Nat → Nat} {i : Nat} : ∀ {n : Nat}, i < n → (∀ k, k < n → k ≠ i → f' k = f k) → sumF g f' n + g (f i) = sumF g f n + g (f' i)
  | 0, h, _ => by omega
  | n + 1, hi, h => by
    rw [sumF, sumF]
    by_cases e : i = n
    · subst e
      rw [sumF_congr (fun k hk => h k (by omega) (by omega))]; omega
    · have := sumF_set (n := n) (g := g) (f := f) (f' := f') (by omega) (fun k hk hne => h k (by omega) hne)
      rw [h n (by omega) (fun h => e h.symm)]; omega
theorem sumF_sw {g f : Nat → Nat} {i j n : Nat} (hi : i < n) (hj : j < n) : sumF g (sw f i j) n = sumF g f n := by
  by_cases e : i = j
  · subst e
    refine sumF_congr (fun k _ => ?_)
    by_cases h : k = i
    · subst h; exact sw_i f k k
    · exact sw_o f h h
  · have h1 := sumF_set (g := g) (f := f) (f' := fun k => if k = i then f j else f k) (n := n) hi (fun k _ h => if_neg h)
    have h2 := sumF_set (g := g) (f := fun k => if k = i then f j else f k) (f' := sw f i j) (n := n) hj (fun k _ h => by unfold sw; by_cases h3 : k = i <;> simp [h3, h])
    rw [if_pos rfl] at h1
    rw [if_neg (fun h => e h.symm), sw_j] at h2
    omega

/-- The heap's order; and the order but for the children of j. -/
def HeapO (key f : Nat → Nat) (n : Nat) : Prop := ∀ c, 0 < c → c < n → key (f ((c - 1) / 2)) ≤ key (f c)
def Hole (key f : Nat → Nat) (n j : Nat) : Prop :=
  (∀ c, 0 < c → c < n → (c - 1) / 2 ≠ j → key (f ((c - 1) / 2)) ≤ key (f c)) ∧ (∀ c, 0 < c → c < n → (c - 1) / 2 = j → 0 < j → key (f ((j - 1) / 2)) ≤ key (f c))
theorem HeapO.root {key f : Nat → Nat} {n : Nat} (h : HeapO key f n) : ∀ c, c < n → key (f 0) ≤ key (f c) := by
  intro c
  induction c using Nat.strongRecOn with
  | ind c ih =>
    intro hc
    by_cases h0 : c = 0
    · subst h0; exact Nat.le_refl _
    · exact Nat.le_trans (ih ((c - 1) / 2) (by omega) (by omega)) (h c (by omega) hc)
theorem Hole.start {key f : Nat → Nat} {n : Nat} (h : HeapO key f (n + 1)) : Hole key (sw f 0 n) n 0 := by
  refine ⟨fun c h0 hc hp => ?_, fun c _ _ _ h0 => by omega⟩
  rw [sw_o f (by omega) (by omega), sw_o f (by omega) (by omega)]
  exact h c h0 (by omega)
theorem Hole.leaf {key f : Nat → Nat} {n j : Nat} (h : Hole key f n j) (hn : n ≤ 2 * j + 1) : HeapO key f n := fun c h0 hc => h.1 c h0 hc (by omega)
/-- m is the lesser child of j, and not less than j. -/
theorem Hole.stop {key f : Nat → Nat} {n j m : Nat} (h : Hole key f n j) (hm : ∀ c, 0 < c → c < n → (c - 1) / 2 = j → key (f m) ≤ key (f c)) (hj : key (f j) ≤ key (f m)) : HeapO key f n := fun c h0 hc => by
  by_cases hp : (c - 1) / 2 = j
  · rw [hp]; exact Nat.le_trans hj (hm c h0 hc hp)
  · exact h.1 c h0 hc hp
theorem Hole.step {key f : Nat → Nat} {n j m : Nat} (h : Hole key f n j) (hm : ∀ c, 0 < c → c < n → (c - 1) / 2 = j → key (f m) ≤ key (f c)) (hj : key (f m) < key (f j)) (hmn : m < n) (hmj : (m - 1) / 2 = j) (hm0 : 0 < m) : Hole key (sw f j m) n m := by
  refine ⟨fun c h0 hc hp => ?_, fun c h0 hc hp _ => ?_⟩
  · by_cases hpj : (c - 1) / 2 = j
    · rw [hpj, sw_i]
      by_cases hcm : c = m
      · subst hcm; rw [sw_j]; omega
      · rw [sw_o f (by omega) hcm]; exact hm c h0 hc hpj
    · rw [sw_o f hpj hp]
      by_cases hcj : c = j
      · subst hcj; rw [sw_i]; exact h.2 m hm0 hmn hmj h0
      · rw [sw_o f hcj (by intro e; subst e; exact hpj hmj)]; exact h.1 c h0 hc hpj
  · rw [hmj, sw_i, sw_o f (by omega) (by omega)]
    have := h.1 c h0 hc (by omega)
    rwa [hp] at this

/-- A queue's places and items: the place k holds the item in the block f k; X: what the items hold, but for their index. -/
structure Qu (tp ti io : Nat) (X : Nat → Array Value) (key : Nat → Nat) (w : World) (bk n : Nat) (f : Nat → Nat) : Prop where
  blk : 0 < n → ∃ C, w.heap[bk]? = some (.cells C tp (0, 0)) ∧ n ≤ C.size ∧ ∀ k, k < n → C[k]? = some (.pointer (some ⟨f k, 0, none⟩))
  it : ∀ k, k < n → w.heap[f k]? = some (.cells ((X (f k)).setIfInBounds io (.int .i64 (k : Nat))) ti (0, 0))
  tm : ∀ k, k < n → key (f k) < 65536 ∧ io < (X (f k)).size ∧ (X (f k))[0]? = some (.int .u64 (key (f k) : Nat)) ∧ (X (f k))[1]? = some (.int .i64 0) ∧ (X (f k))[2]? = some (.pointer none)
  inj : ∀ i j, i < n → j < n → f i = f j → i = j
  ne : ∀ k, k < n → f k ≠ bk
section
variable {tp ti io : Nat} {X : Nat → Array Value} {key : Nat → Nat} {w w' : World} {bk n : Nat} {f : Nat → Nat}
theorem Qu.move (h : Qu tp ti io X key w bk n f) (h1 : 0 < n → w'.heap[bk]? = w.heap[bk]?) (h2 : ∀ k, k < n → w'.heap[f k]? = w.heap[f k]?) : Qu tp ti io X key w' bk n f := by
  exact ⟨fun hn => by obtain ⟨C, a, b, c⟩ := h.blk hn; exact ⟨C, (h1 hn).trans a, b, c⟩, fun k hk => (h2 k hk).trans (h.it k hk), h.tm, h.inj, h.ne⟩
theorem Qu.bk_lt (h : Qu tp ti io X key w bk n f) (hn : 0 < n) : bk < w.heap.size := by
  obtain ⟨C, a, _⟩ := h.blk hn
  exact lt_of_heap a
theorem Qu.it_lt (h : Qu tp ti io X key w bk n f) {k : Nat} (hk : k < n) : f k < w.heap.size := lt_of_heap (h.it k hk)
theorem Qu.below (h : Qu tp ti io X key w bk n f) (hB : Below w.heap.size w w') : Qu tp ti io X key w' bk n f :=
  h.move (fun hn => hB.block _ (h.bk_lt hn)) (fun k hk => hB.block _ (h.it_lt hk))
theorem Qu.less (h : Qu tp ti io X key w bk n f) {m : Nat} (hm : m ≤ n) : Qu tp ti io X key w bk m f := by
  exact ⟨fun hm0 => by obtain ⟨C, a, b, c⟩ := h.blk (by omega); exact ⟨C, a, by omega, fun k hk => c k (by omega)⟩, fun k hk => h.it k (by omega), fun k hk => h.tm k (by omega), fun i j hi hj => h.inj i j (by omega) (by omega), fun k hk => h.ne k (by omega)⟩
theorem Qu.cell (h : Qu tp ti io X key w bk n f) {k : Nat} (hk : k < n) : w.cell? ⟨bk, k, none⟩ = some (.pointer (some ⟨f k, 0, none⟩)) := by
  obtain ⟨C, a, b, c⟩ := h.blk (by omega)
  rw [cell_of_row w bk k _ tp (0, 0) a]; exact c k hk
theorem Qu.icell (h : Qu tp ti io X key w bk n f) {k : Nat} (hk : k < n) {o : Nat} (ho : o ≠ io) : w.cell? ⟨f k, o, none⟩ = (X (f k))[o]? := by
  rw [cell_of_row w _ o _ ti (0, 0) (h.it k hk), Array.getElem?_setIfInBounds, if_neg (fun e => ho e.symm)]
theorem Qu.index (h : Qu tp ti io X key w bk n f) {k : Nat} (hk : k < n) : w.cell? ⟨f k, io, none⟩ = some (.int .i64 (k : Nat)) := by
  rw [cell_of_row w _ io _ ti (0, 0) (h.it k hk), Array.getElem?_setIfInBounds, if_pos rfl, if_pos (h.tm k hk).2.1]
end
theorem cell_lt {w : World} {a : Addr} {v : Value} (h : w.cell? a = some v) : a.block < w.heap.size := by
  rcases Nat.lt_or_ge a.block w.heap.size with h' | h'
  · exact h'
  · simp [World.cell?, Array.getElem?_eq_none h'] at h
theorem bcell {w w' : World} (h : Below w.heap.size w w') {p : Addr} {v : Value} (hc : w.cell? p = some v) : w'.cell? p = some v := (h.cell (cell_lt hc)).trans hc
theorem bef0 (n m : Nat) : bef (n : Int) 0 (m : Int) 0 = decide (n < m) := by simp [bef]
theorem set_ne (w : World) (b o o' : Nat) (v : Value) {C : Array Value} {t : TypeId} (hC : w.heap[b]? = some (.cells C t (0, 0))) (h : o' ≠ o) : (w.setCell ⟨b, o, none⟩ v).cell? ⟨b, o', none⟩ = w.cell? ⟨b, o', none⟩ := by
  rw [cell_of_row _ _ _ _ t (0, 0) (heap_setCell_same w b o C t v hC), cell_of_row w _ _ _ t (0, 0) hC, Array.getElem?_setIfInBounds, if_neg (fun e => h e.symm)]

/-- A method with a value's receiver, called through a pointer in an interface value. -/
theorem meth_val {T E : TypeId} {ti : TypeInfo} {nm : String} {f : Nat} {p : Addr} {w : World} {v : Value} (hti : ∀ w, (typeInfo T).run Yba.prog w = .ok ti w) (hu : Yba.prog.underlying T = some (.pointer E))
    (hfind : (ti.methods.find? (·.name == nm)).map (fun m => (m.path, m.func)) = some (#[], some (f, false)))
    (hchk : ∀ nm' w, (Builtin.ssaWrapNilChk_ #[T] T #[.pointer (some p), strVal "", strVal nm']).run Yba.prog w = .ok (.pointer (some p)) w)
    (hload : (loadVar E p).run Yba.prog w = .ok v w) : (method 353 T (.pointer (some p)) nm).run Yba.prog w = .ok (f, v) w := by
  rw [method]
  cases hm : ti.methods.find? (·.name == nm) with
  | none => rw [hm] at hfind; cases hfind
  | some m =>
    rw [hm] at hfind
    simp only [Option.map_some, Option.some.injEq, Prod.mk.injEq] at hfind
    obtain ⟨h1, h2⟩ := hfind
    simp [hti, hm, h1, h2, follow, receiverAt, run_underlying hu, Place.get, hchk, hload, asAddr]
end Go.Proofs.Ybulkamjs
