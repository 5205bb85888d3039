/- What the walk of LawS1917CPick takes. -/
import Derived.Test.YbulkamrgPickL
import Derived.Test.YbulkamrgCm
import Derived.Test.YbulkamrgBuild
import Derived.Laws.OwnMore
namespace Go.Proofs.Ybulkamrg
set_option linter.unusedSimpArgs false
set_option linter.unusedVariables false
open Go.RowKit Go.Maps Go.WideMaps

attribute [-simp] Yba.zeroValue43 Yba.typeInfo43
/-- The zero description; a description with an address and a type. -/
def Z23 : List Value := [.string ⟨#[]⟩, .int .u8 0, .float .f64 0, .map none, .int .u64 0, .int .i64 0, .pointer none, .int .u64 0, .int .i64 0, .pointer none, .string ⟨#[]⟩, .string ⟨#[]⟩, .slice none 0 0, .slice none 0 0, .slice none 0 0, .string ⟨#[]⟩, .string ⟨#[]⟩, .pointer none, .pointer none, .int .i64 0, .int .i64 0, .pointer none, .pointer none]
theorem zero43 (w : World) : (zeroValue 43).run Yba.prog w = .ok (.agg Z23.toArray) w := by rw [Yba.zeroValue43]; rfl
attribute [local simp] zero43
def D23 (ad : ByteArray) (t : Nat) : List Value := (Z23.set 0 (.string ad)).set 1 (.int .u8 t)
theorem D23_len (ad : ByteArray) (t : Nat) : (D23 ad t).length = 23 := rfl
theorem D23_one (ad : ByteArray) (t : Nat) : ∀ v ∈ D23 ad t, v.oneCell' = true := by
  intro v hv
  simp only [D23, Z23, List.set_cons_zero, List.set_cons_succ, List.mem_cons, List.not_mem_nil, or_false] at hv
  rcases hv with h | h | h | h | h | h | h | h | h | h | h | h | h | h | h | h | h | h | h | h | h | h | h <;> subst h <;> rfl
theorem info43 : ∃ ti, Yba.prog.info? 43 = some ti ∧ ti.zero = some (.agg Z23.toArray) ∧ ti.size = 23 ∧ ti.bytes = 272 := by
  have h1 : (Yba.prog.info? 43).map (fun t => (t.size, t.bytes)) = some (23, 272) := by kernel_rfl
  have h2 : (Yba.prog.info? 43).bind (fun t => t.zero) = some (.agg Z23.toArray) := by kernel_rfl
  cases h : Yba.prog.info? 43 with
  | none => rw [h] at h1; cases h1
  | some ti =>
    rw [h] at h1 h2
    simp only [Option.map_some, Option.some.injEq, Prod.mk.injEq, Option.bind_some] at h1 h2
    exact ⟨ti, rfl, h2, h1.1, h1.2⟩
theorem make43 (n : Nat) (hn : n ≤ 256) (w : World) : ∃ C : Array Value, C.size = n * 23 ∧ (Instr.makeSlice 28 (.int .i64 (n : Int)) (.int .i64 (n : Int))).run Yba.prog w = .ok (.slice (some ⟨w.heap.size, 0, none⟩) n n) (w.alloc (.cells C 43 (0, 0))) := by
  obtain ⟨ti, h1, h2, h3, h4⟩ := info43
  have := run_make (P := Yba.prog) w 28 43 ti _ Yba.underlying28 h1 h2 .i64 .i64 (n : Int) (n : Int) (by omega) (by omega) (by rw [h4]; omega) (by omega)
  simp only [Int.toNat_natCast] at this
  exact ⟨_, by rw [size_madeCells, h3], this⟩

theorem info46 : ∃ ti, Yba.prog.info? 46 = some ti ∧ ti.zero = some (.map none) ∧ ti.size = 1 ∧ ti.bytes = 8 := by
  have h1 : (Yba.prog.info? 46).map (fun t => (t.size, t.bytes)) = some (1, 8) := by kernel_rfl
  have h2 : (Yba.prog.info? 46).bind (fun t => t.zero) = some (.map none) := by kernel_rfl
  cases h : Yba.prog.info? 46 with
  | none => rw [h] at h1; cases h1
  | some ti =>
    rw [h] at h1 h2
    simp only [Option.map_some, Option.some.injEq, Prod.mk.injEq, Option.bind_some] at h1 h2
    exact ⟨ti, rfl, h2, h1.1, h1.2⟩
theorem make46 (n : Nat) (hn : n ≤ 256) (w : World) : ∃ C : Array Value, C.size = n ∧ (Instr.makeSlice 45 (.int .i64 (n : Int)) (.int .i64 (n : Int))).run Yba.prog w = .ok (.slice (some ⟨w.heap.size, 0, none⟩) n n) (w.alloc (.cells C 46 (0, 0))) := by
  obtain ⟨ti, h1, h2, h3, h4⟩ := info46
  have := run_make (P := Yba.prog) w 45 46 ti _ Yba.underlying45 h1 h2 .i64 .i64 (n : Int) (n : Int) (by omega) (by omega) (by rw [h4]; omega) (by omega)
  simp only [Int.toNat_natCast] at this
  exact ⟨_, by rw [size_madeCells, h3, Nat.mul_one], this⟩
theorem info9 : ∃ ti, Yba.prog.info? 9 = some ti ∧ ti.zero = some (.string ⟨#[]⟩) ∧ ti.size = 1 ∧ ti.bytes = 16 := by
  have h1 : (Yba.prog.info? 9).map (fun t => (t.size, t.bytes)) = some (1, 16) := by kernel_rfl
  have h2 : (Yba.prog.info? 9).bind (fun t => t.zero) = some (.string ⟨#[]⟩) := by kernel_rfl
  cases h : Yba.prog.info? 9 with
  | none => rw [h] at h1; cases h1
  | some ti =>
    rw [h] at h1 h2
    simp only [Option.map_some, Option.some.injEq, Prod.mk.injEq, Option.bind_some] at h1 h2
    exact ⟨ti, rfl, h2, h1.1, h1.2⟩
theorem make9 (n : Nat) (hn : n ≤ 256) (w : World) : ∃ C : Array Value, C.size = n ∧ (Instr.makeSlice 37 (.int .i64 (n : Int)) (.int .i64 (n : Int))).run Yba.prog w = .ok (.slice (some ⟨w.heap.size, 0, none⟩) n n) (w.alloc (.cells C 9 (0, 0))) := by
  obtain ⟨ti, h1, h2, h3, h4⟩ := info9
  have := run_make (P := Yba.prog) w 37 9 ti _ Yba.underlying37 h1 h2 .i64 .i64 (n : Int) (n : Int) (by omega) (by omega) (by rw [h4]; omega) (by omega)
  simp only [Int.toNat_natCast] at this
  exact ⟨_, by rw [size_madeCells, h3, Nat.mul_one], this⟩
theorem sc_mid {w : World} {b o : Nat} {C : Array Value} {t : TypeId} {X : List Value} (hb : w.heap[b]? = some (.cells C t (0, 0))) (hX : o + X.length ≤ C.size) (h1 : ∀ v ∈ X, v.oneCell' = true) :
    (storeCells ⟨b, o, none⟩ X).run Yba.prog w = .ok () (w.setCells b o X) := by
  have := run_storeCells_cells (P := Yba.prog) b o X 0 w (fun j hj => by
    rw [cell_of_row w b _ _ t (0, 0) hb, Array.getElem?_eq_getElem (by omega)]; rfl) (fun j hj => by simp [World.frozen?, hb]) h1
  simpa [storeCells] using this
/-- A stretch of a row, put. -/
theorem heap_mid {b : Nat} {t : TypeId} : ∀ (X : List Value) (o : Nat) (w : World) (C : Array Value), w.heap[b]? = some (.cells C t (0, 0)) → o + X.length ≤ C.size →
    ∃ C', (w.setCells b o X).heap[b]? = some (.cells C' t (0, 0)) ∧ C'.size = C.size ∧ (∀ j, (j < o ∨ o + X.length ≤ j) → C'[j]? = C[j]?) ∧ ∀ j, j < X.length → C'[o + j]? = X[j]?
  | [], o, w, C, h, hl => ⟨C, h, rfl, fun _ _ => rfl, fun j hj => by simp at hj⟩
  | v :: r, o, w, C, h, hl => by
    simp only [List.length_cons] at hl
    rw [World.setCells]
    obtain ⟨C', h1, h2, h3, h4⟩ := heap_mid r (o + 1) _ _ (heap_setCell_same w b o C t v h) (by simp; omega)
    refine ⟨C', h1, by simpa using h2, fun j hj => ?_, fun j hj => ?_⟩
    · rw [h3 j (by simp only [List.length_cons] at hj; omega), Array.getElem?_setIfInBounds, if_neg (by simp only [List.length_cons] at hj; omega)]
    · cases j with
      | zero => rw [Nat.add_zero, h3 o (by omega), Array.getElem?_setIfInBounds, if_pos rfl, if_pos (by omega)]; rfl
      | succ j => rw [show o + (j + 1) = o + 1 + j by omega, h4 j (by simpa using hj)]; rfl

/-- A server that came in. -/
structure ZS where
  ab : Nat
  tb : Nat
  ta : Option Addr
  tcap : Nat
  tags : List Nat
def ZSrvs (w : World) (a : Option Addr) (zs : List ZS) : Prop := ∀ (i : Nat) (z : ZS), zs[i]? = some z → z.ab < 256 ∧ z.tb < 256 ∧ Bytes w z.ta z.tags ∧ ∃ x, a = some x ∧
  w.cell? (x.add (i * 3)) = some (.int .u8 z.ab) ∧ w.cell? ⟨x.block, x.off + i * 3 + 1, none⟩ = some (.int .u8 z.tb) ∧ w.cell? ⟨x.block, x.off + i * 3 + 2, none⟩ = some (.slice z.ta z.tags.length z.tcap)
theorem add_block (x : Addr) (k : Nat) : (x.add k).block = x.block := by unfold Addr.add; split <;> rfl
theorem add_off (x : Addr) (k : Nat) : (x.add k).off = x.off + k := by unfold Addr.add; split <;> simp_all
theorem ZSrvs.keep {w w' : World} {a : Option Addr} {zs : List ZS} (h : ZSrvs w a zs) (hB : Below w.heap.size w w') : ZSrvs w' a zs := fun i z hz => by
  obtain ⟨h1, h2, h3, x, h4, h5, h6, h7⟩ := h i z hz
  exact ⟨h1, h2, h3.keep hB, x, h4, Below.cellAt hB h5, Below.cellAt hB h6, Below.cellAt hB h7⟩
theorem MapF.move {W W' : World} {v : Value} {f : Nat → Option ByteArray} (h : MapF W v f) (hm : ∀ (k : Nat) (es : Array MapEntry) (clock : Nat), W.heap[k]? = some (Obj.map es clock) → W'.heap[k]? = some (Obj.map es clock)) : MapF W' v f := by
  rcases h with h | ⟨m, N, D, rfl, ⟨es, clock, hb, r⟩, h2⟩
  · exact .inl h
  · exact .inr ⟨m, N, D, rfl, ⟨es, clock, hm m es clock hb, r⟩, h2⟩
theorem Srvs.move {W W' : World} {g : Nat} {ds : List SD} (h : Srvs W (some ⟨g, 0, none⟩) ds) (hc : ∀ i, i < ds.length → ∀ k, k < 23 → W'.cell? ⟨g, i * 23 + k, none⟩ = W.cell? ⟨g, i * 23 + k, none⟩)
    (hm : ∀ (k : Nat) (es : Array MapEntry) (clock : Nat), W.heap[k]? = some (Obj.map es clock) → W'.heap[k]? = some (Obj.map es clock)) : Srvs W' (some ⟨g, 0, none⟩) ds := fun i d hd => by
  obtain ⟨g', e, h1, h2, h3, h4, h5⟩ := h i d hd
  have hi : i < ds.length := (List.getElem?_eq_some_iff.1 hd).1
  have : g' = g := by injection e with e; injection e with e; exact e.symm
  subst this
  exact ⟨g', rfl, (hc i hi 0 (by omega)).trans h1, (hc i hi 1 (by omega)).trans h2, (hc i hi 3 (by omega)).trans h3, h4.move hm, h5⟩
theorem Srvs.snoc {W : World} {g : Nat} {ds : List SD} {d : SD} (h : Srvs W (some ⟨g, 0, none⟩) ds) (hd : Srv W g (ds.length * 23) d.ad d.t d.vT d.fT) : Srvs W (some ⟨g, 0, none⟩) (ds ++ [d]) := fun i e he => by
  by_cases hi : i = ds.length
  · subst hi
    have : e = d := by simpa using he.symm
    subst this
    exact ⟨g, rfl, hd⟩
  · have hlt : i < ds.length := by
      have := (List.getElem?_eq_some_iff.1 he).1
      simp at this; omega
    rw [List.getElem?_append_left hlt] at he
    exact h i e he

/-- A set of bytes that came in. -/
structure ZB where
  a : Option Addr
  cap : Nat
  bs : List Nat
def ZSets (w : World) (a : Option Addr) (zs : List ZB) : Prop := ∀ (i : Nat) (z : ZB), zs[i]? = some z → Bytes w z.a z.bs ∧ ∃ x, a = some x ∧ w.cell? (x.add i) = some (.slice z.a z.bs.length z.cap)
theorem ZSets.keep {w w' : World} {a : Option Addr} {zs : List ZB} (h : ZSets w a zs) (hB : Below w.heap.size w w') : ZSets w' a zs := fun i z hz => by
  obtain ⟨h1, x, h2, h3⟩ := h i z hz
  exact ⟨h1.keep hB, x, h2, Below.cellAt hB h3⟩


theorem add0 (g j : Nat) : (⟨g, 0, none⟩ : Addr).add j = ⟨g, j, none⟩ := by unfold Addr.add; split <;> simp_all
theorem Sets.move {W W' : World} {g : Nat} {fs : List (Nat → Option ByteArray)} (h : Sets W (some ⟨g, 0, none⟩) fs) (hc : ∀ i, i < fs.length → W'.cell? ⟨g, i, none⟩ = W.cell? ⟨g, i, none⟩)
    (hm : ∀ (k : Nat) (es : Array MapEntry) (clock : Nat), W.heap[k]? = some (Obj.map es clock) → W'.heap[k]? = some (Obj.map es clock)) : Sets W' (some ⟨g, 0, none⟩) fs := fun i f hf => by
  obtain ⟨x, e, m, N, D, h1, ⟨es, clock, hb, r⟩, h3⟩ := h i f hf
  have hi : i < fs.length := (List.getElem?_eq_some_iff.1 hf).1
  have : x = ⟨g, 0, none⟩ := by injection e with e; exact e.symm
  subst this
  refine ⟨_, rfl, m, N, D, ?_, ⟨es, clock, hm m es clock hb, r⟩, h3⟩
  rw [add0] at h1 ⊢
  exact (hc i hi).trans h1
theorem Sets.snoc {W : World} {g : Nat} {fs : List (Nat → Option ByteArray)} {f : Nat → Option ByteArray} {m N : Nat} {D : DataW Unit} (h : Sets W (some ⟨g, 0, none⟩) fs) (hc : W.cell? ⟨g, fs.length, none⟩ = some (.map (some m)))
    (hm : W.ownsMap Yba.prog 9 (plainElem Yba.prog 9) m N D) (hF : FD D f) : Sets W (some ⟨g, 0, none⟩) (fs ++ [f]) := fun i e he => by
  by_cases hi : i = fs.length
  · subst hi
    have : e = f := by simpa using he.symm
    subst this
    exact ⟨_, rfl, m, N, D, by rw [add0]; exact hc, hm, hF⟩
  · have hlt : i < fs.length := by
      have := (List.getElem?_eq_some_iff.1 he).1
      simp at this; omega
    rw [List.getElem?_append_left hlt] at he
    exact h i e he
theorem ownsMap_move {W W' : World} {m N : Nat} {D : DataW Unit} (h : W.ownsMap Yba.prog 9 (plainElem Yba.prog 9) m N D) (hm : ∀ (k : Nat) (es : Array MapEntry) (clock : Nat), W.heap[k]? = some (Obj.map es clock) → W'.heap[k]? = some (Obj.map es clock)) :
    W'.ownsMap Yba.prog 9 (plainElem Yba.prog 9) m N D := by
  obtain ⟨es, clock, hb, r⟩ := h
  exact ⟨es, clock, hm m es clock hb, r⟩
/-- One cell of a row of another kind is set: the maps lie as they lay. -/
theorem maps_set {W : World} {g o : Nat} {C : Array Value} {t : TypeId} (v : Value) (hC : W.heap[g]? = some (.cells C t (0, 0))) : ∀ (k : Nat) (es : Array MapEntry) (clock : Nat), W.heap[k]? = some (Obj.map es clock) → (W.setCell ⟨g, o, none⟩ v).heap[k]? = some (Obj.map es clock) := fun k es clock hk => by
  rw [Below.heap_setCell _ _ _ _ (fun e => ?_)]
  · exact hk
  · have e' : k = g := e
    subst e'; rw [hC] at hk; cases hk
end Go.Proofs.Ybulkamrg
