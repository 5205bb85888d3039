/- The map 'pending' of the lookups: no key, or the zero id alone. -/
import Derived.Test.YbulkamjsDir
namespace Go.Proofs.Ybulkamjs
open Go.RowKit Go.Maps Go.WideMaps
set_option linter.unusedVariables false
set_option linter.unusedSimpArgs false

def zv : Value := .agg zid.toArray
def pe (p : Int) : MapEntry := { key := zv, val := .int .i64 p, born := 0 }
theorem pe_key (p : Int) : (pe p).key = zv := rfl
theorem pe_born (p : Int) : (pe p).born = 0 := rfl
theorem zkey : ∃ kl, keyOf Yba.prog 40 zv = some kl := by
  have : (keyOf Yba.prog 40 zv).isSome = true := by kernel_rfl
  exact Option.isSome_iff_exists.1 this
theorem find_one (w : World) (p : Int) : (Instr.findKey 40 zv [pe p]).run Yba.prog w = .ok (some (0, .int .i64 p)) w := by
  obtain ⟨kl, hk⟩ := zkey
  rcases keyed40.find w hk [pe p] (fun e he => by rw [List.mem_singleton.1 he]; exact ⟨kl, hk⟩) with ⟨_, h⟩ | ⟨j, e, h1, h2, _⟩
  · exact absurd rfl (h (pe p) (by simp))
  · cases j with
    | zero => simp at h2; subst h2; exact h1
    | succ j => simp at h2
theorem find_nil (w : World) : (Instr.findKey 40 zv []).run Yba.prog w = .ok none w := by
  obtain ⟨kl, hk⟩ := zkey
  rcases keyed40.find w hk [] (by simp) with h | ⟨j, e, _, he, _⟩
  · exact h.1
  · simp at he
theorem check_z (w : World) (em : Bool) : (Instr.checkKey em 10000 40 zv).run Yba.prog w = .ok () w := by
  obtain ⟨kl, hk⟩ := zkey
  exact keyed40.check w em hk
theorem stays_z (w : World) : (Instr.keyThatStays zv zv).run Yba.prog w = .ok zv w := by
  obtain ⟨kl, hk⟩ := zkey
  exact keyed40.stays w hk
theorem zero3 (w : World) : (zeroValue 3).run Yba.prog w = .ok (.int .i64 0) w := by kernel_rfl
theorem under67 : Yba.prog.underlying 67 = some (.map 40 3) := by kernel_rfl

def setB (w : World) (b : Nat) (o : Obj) : World := { w with heap := w.heap.setIfInBounds b o }
theorem setB_same {w : World} {b : Nat} {o : Obj} (h : w.heap[b]? = some o) : setB w b o = w := by
  have : w.heap.setIfInBounds b o = w.heap := by
    apply Array.ext_getElem?
    intro j
    rw [Array.getElem?_setIfInBounds]
    by_cases e : b = j
    · subst e; rw [if_pos rfl, if_pos (lt_of_heap h), h]
    · rw [if_neg e]
  rw [setB, this]
theorem setB_at {w : World} {b : Nat} {o : Obj} (hb : b < w.heap.size) : (setB w b o).heap[b]? = some o := by
  simp [setB, hb]
theorem setB_ne {w : World} {b : Nat} {o : Obj} {k : Nat} (h : k ≠ b) : (setB w b o).heap[k]? = w.heap[k]? := by
  simp only [setB, Array.getElem?_setIfInBounds, if_neg (fun e => h (Eq.symm e))]
theorem Kept.setB {own : Nat → Prop} {a w : World} (h : Kept own a w) (b : Nat) (o : Obj) (hb : b < a.heap.size → own b) : Kept own a (setB w b o) :=
  h.trans (own' := fun k => k = b) ⟨rfl, rfl, rfl, by simp [Ybulkamjs.setB], fun k _ hk => setB_ne hk⟩ (fun i hi e => e ▸ hb (e ▸ hi))

theorem look_one {w : World} {m : Nat} {p : Int} (h : w.heap[m]? = some (.map #[pe p] 1)) : (Instr.lookup 67 (.map (some m)) zv false).run Yba.prog w = .ok (.int .i64 p) w := by
  have h2 := MapKept.run_getObj_map (P := Yba.prog) h
  have h3 := find_one w p
  have h4 := check_z w false
  simp [Instr.lookup, run_underlying under67, h2, h3, h4, Result.andThen]
theorem look_nil {w : World} {m : Nat} (h : w.heap[m]? = some (.map #[] 0)) : (Instr.lookup 67 (.map (some m)) zv false).run Yba.prog w = .ok (.int .i64 0) w := by
  have h2 := MapKept.run_getObj_map (P := Yba.prog) h
  have h3 := find_nil w
  have h4 := check_z w true
  have h5 := zero3 w
  simp [Instr.lookup, run_underlying under67, h2, h3, h4, h5, Result.andThen]
theorem entry_one {w : World} {m : Nat} {p : Int} (h : w.heap[m]? = some (.map #[pe p] 1)) : (Instr.mapEntry 67 (.map (some m)) zv).run Yba.prog w = .ok (.tuple #[.int .i64 p, .int .i64 0]) w := by
  have h2 := MapKept.run_getObj_map (P := Yba.prog) h
  have h3 := find_one w p
  have h4 := check_z w false
  have h5 := stays_z w
  have h6 := MapKept.run_setObj_map (P := Yba.prog) (.map #[pe p] 1) h
  have h7 : ({ w with heap := w.heap.setIfInBounds m (.map #[pe p] 1) } : World) = w := setB_same h
  have e2 : ({ key := zv, val := (pe p).val, born := 0 } : MapEntry) = pe p := rfl
  simp [Instr.mapEntry, run_underlying under67, h2, h3, h4, Result.andThen, pe_key, pe_born, h5, goInt, e2, h6, h7]
theorem entry_nil {w : World} {m : Nat} (h : w.heap[m]? = some (.map #[] 0)) : (Instr.mapEntry 67 (.map (some m)) zv).run Yba.prog w = .ok (.tuple #[.int .i64 0, .int .i64 0]) (setB w m (.map #[pe 0] 1)) := by
  have h2 := MapKept.run_getObj_map (P := Yba.prog) h
  have h3 := find_nil w
  have h4 := check_z w false
  have h5 := zero3 w
  have h6 := MapKept.run_setObj_map (P := Yba.prog) (.map #[pe 0] 1) h
  have e2 : ({ key := zv, val := .int .i64 0, born := 0 } : MapEntry) = pe 0 := rfl
  simp [Instr.mapEntry, run_underlying under67, h2, h3, h4, h5, Result.andThen, goInt, e2, h6, setB]
theorem store_one {w : World} {m : Nat} {p : Int} (q : Int) (h : w.heap[m]? = some (.map #[pe p] 1)) : (Instr.entryStore 67 (.map (some m)) (.int .i64 0) (.int .i64 q)).run Yba.prog w = .ok () (setB w m (.map #[pe q] 1)) := by
  have h2 := MapKept.run_getObj_map (P := Yba.prog) h
  have h6 := MapKept.run_setObj_map (P := Yba.prog) (.map #[pe q] 1) h
  have e2 : ({ key := zv, val := .int .i64 q, born := 0 } : MapEntry) = pe q := rfl
  simp [Instr.entryStore, h2, Result.andThen, asInt, asIntOf, pe_born, pe_key, e2, h6, setB]
/-- p lookups are pending. -/
def Pend (w : World) (m : Nat) (p : Int) : Prop := (p = 0 ∧ w.heap[m]? = some (.map #[] 0)) ∨ w.heap[m]? = some (.map #[pe p] 1)
theorem Pend.look {w : World} {m : Nat} {p : Int} (h : Pend w m p) : (Instr.lookup 67 (.map (some m)) zv false).run Yba.prog w = .ok (.int .i64 p) w := by
  rcases h with ⟨rfl, h⟩ | h
  · exact look_nil h
  · exact look_one h
theorem Pend.one {w : World} {m : Nat} {p : Int} (h : Pend w m p) (hp : p ≠ 0) : w.heap[m]? = some (.map #[pe p] 1) := h.elim (fun h => absurd h.1 hp) id
theorem Pend.lt {w : World} {m : Nat} {p : Int} (h : Pend w m p) : m < w.heap.size := h.elim (fun h => lt_of_heap h.2) lt_of_heap
theorem Pend.ne {w : World} {m : Nat} {p : Int} (h : Pend w m p) {g : Nat} {C : Array Value} {t : TypeId} {fr : Nat × Nat} (hg : w.heap[g]? = some (.cells C t fr)) : m ≠ g := by
  rintro rfl
  rcases h with ⟨_, h⟩ | h <;> (rw [hg] at h; cases h)
theorem Pend.move {w w' : World} {m : Nat} {p : Int} (h : Pend w m p) (e : w'.heap[m]? = w.heap[m]?) : Pend w' m p := h.elim (fun h => .inl ⟨h.1, e.trans h.2⟩) (fun h => .inr (e.trans h))
end Go.Proofs.Ybulkamjs
