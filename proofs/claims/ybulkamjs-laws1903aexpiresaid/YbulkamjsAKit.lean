/- The values that the law's first loop builds. -/
import Derived.Test.YbulkamjsBldS
import Derived.Laws.OwnMore
namespace Go.Proofs.Ybulkamjs
open Go.RowKit Go.Maps Go.WideMaps
set_option linter.unusedSimpArgs false
set_option linter.unusedVariables false
/-- The zero value's key; the zero value; the zero item. -/
noncomputable def z46 : List Value := Yba.zeroCells46.toList
noncomputable def z51 : List Value := Yba.zeroCells51.toList
noncomputable def z53 : List Value := Yba.zeroCells53.toList
theorem zero46 (w : World) : (zeroValue 46).run Yba.prog w = .ok (.agg z46.toArray) w := by rw [Yba.zeroValue46]; rfl
theorem zero51 (w : World) : (zeroValue 51).run Yba.prog w = .ok (.agg z51.toArray) w := by rw [Yba.zeroValue51]; rfl
theorem zero53 (w : World) : (zeroValue 53).run Yba.prog w = .ok (.agg z53.toArray) w := by rw [Yba.zeroValue53]; rfl
theorem z46_len : z46.length = 129 := by kernel_rfl
theorem z51_len : z51.length = 131 := by kernel_rfl
theorem z53_len : z53.length = 135 := by kernel_rfl
theorem fold_put0 (L : List Value) (C : Array Value) : List.foldl (fun cs x => cs.setIfInBounds x.2 x.1) C L.zipIdx = putA C 0 L := by
  have := fold_put 0 L 0 C
  simpa using this
theorem put_list (Z L : List Value) (o : Nat) (h : o + L.length ≤ Z.length) : putA Z.toArray o L = (Z.take o ++ L ++ Z.drop (o + L.length)).toArray := by
  apply Array.ext_getElem?
  intro j
  rw [get_putA L o _ j (by simpa using h)]
  simp only [List.getElem?_toArray]
  by_cases h1 : j < o
  · rw [if_neg (by omega), List.append_assoc, List.getElem?_append_left (by simp; omega), List.getElem?_take, if_pos h1]
  · by_cases h2 : j < o + L.length
    · rw [if_pos ⟨by omega, h2⟩, List.append_assoc, List.getElem?_append_right (by simp; omega), List.length_take, Nat.min_eq_left (by omega), List.getElem?_append_left (by omega)]
    · rw [if_neg (by omega), List.getElem?_append_right (by simp; omega), List.length_append, List.length_take, Nat.min_eq_left (by omega), List.getElem?_drop]
      congr 1
      omega
theorem setCells_alloc (w : World) (t : TypeId) : ∀ (L : List Value) (o : Nat) (C : Array Value), (w.alloc (.cells C t (0, 0))).setCells w.heap.size o L = w.alloc (.cells (putA C o L) t (0, 0))
  | [], _, _ => rfl
  | v :: r, o, C => by
    rw [World.setCells, World.setCell_alloc_new, putA]
    exact setCells_alloc w t r (o + 1) _
/-- A whole value is stored in a new block. -/
theorem st_alloc (w : World) (Z L : List Value) (t : TypeId) (h : L.length = Z.length) (h1 : ∀ v ∈ L, v.oneCell' = true) : (storeCells ⟨w.heap.size, 0, none⟩ L).run Yba.prog (w.alloc (.cells Z.toArray t (0, 0))) = .ok () (w.alloc (.cells L.toArray t (0, 0))) := by
  rw [sc65 (MapKept.heap_alloc w _).1 (by simp; omega) h1, setCells_alloc, put_all (by simpa using h)]

/-- The key's first part laid into the zero key; the whole key. -/
def tz (j : Nat) : List Value := aid j ++ [.int .u16 0]
theorem tz_len (j : Nat) : (tz j).length = 65 := by simp [tz, aid_len]
theorem fold44 (j : Nat) : List.foldl (fun cs x => cs.setIfInBounds x.2 x.1) zt.toArray (aid j).zipIdx = (tz j).toArray := by
  rw [fold_put0, put_list _ _ _ (by rw [aid_len, zt_len]; omega)]
  simp only [List.take_zero, List.nil_append, Nat.zero_add]
  rw [tz, aid_len, zt, List.drop_left' zid_len]
theorem tz_set (j : Nat) : (tz j).set 64 (.int .u16 1) = tk j := by
  rw [tz, tk, List.set_append_right _ _ (by rw [aid_len]; omega), aid_len]; rfl
noncomputable def vz (j : Nat) : List Value := tk j ++ z46.drop 65
theorem vz_len (j : Nat) : (vz j).length = 129 := by simp [vz, tk_len, z46_len]
theorem fold46a (j : Nat) : List.foldl (fun cs x => cs.setIfInBounds x.2 x.1) z46.toArray (tk j).zipIdx = (vz j).toArray := by
  rw [fold_put0, put_list _ _ _ (by rw [tk_len, z46_len]; omega)]
  simp only [List.take_zero, List.nil_append, Nat.zero_add]
  rw [vz, tk_len]
theorem fold46b (j : Nat) : List.foldl (fun cs x => cs.setIfInBounds (65 + x.2) x.1) (vz j).toArray (aid j).zipIdx = (vk j).toArray := by
  rw [fold_put, put_list _ _ _ (by rw [aid_len, vz_len]; omega)]
  rw [vz, List.take_left' (tk_len j), List.drop_eq_nil_of_le (by simp [tk_len, z46_len, aid_len]), List.append_nil, vk]
noncomputable def iz (j : Nat) : List Value := vk j ++ z51.drop 129
theorem iz_len (j : Nat) : (iz j).length = 131 := by simp [iz, vk_len, z51_len]
theorem fold51 (j : Nat) : List.foldl (fun cs x => cs.setIfInBounds x.2 x.1) z51.toArray (vk j).zipIdx = (iz j).toArray := by
  rw [fold_put0, put_list _ _ _ (by rw [vk_len, z51_len]; omega)]
  simp only [List.take_zero, List.nil_append, Nat.zero_add]
  rw [iz, vk_len]
/-- A value's item. -/
noncomputable def sA (d j : Nat) (sl : Value) : Array Value := (putA (((z53.set 0 (.int .u64 (d : Nat))).set 1 (.int .i64 0)).set 2 (.pointer none)).toArray 3 (((iz j).set 129 sl).set 130 (.int .i64 0))).setIfInBounds 134 (.int .i64 (j : Nat))
theorem sA_size (d j : Nat) (sl : Value) : (sA d j sl).size = 135 := by simp [sA, size_putA, z53_len]
theorem sA_get (d j o : Nat) (sl : Value) (h : o ≠ 134) : (sA d j sl)[o]? = if 3 ≤ o ∧ o < 134 then (((iz j).set 129 sl).set 130 (.int .i64 0))[o - 3]? else (((z53.set 0 (.int .u64 (d : Nat))).set 1 (.int .i64 0)).set 2 (.pointer none))[o]? := by
  rw [sA, Array.getElem?_setIfInBounds, if_neg (fun e => h e.symm), get_putA _ _ _ _ (by simp [iz_len, z53_len])]
  simp [iz_len]
theorem sA_item (d j z : Nat) (a : Option Addr) (c : Nat) : ItS (sA d j (.slice a z c)) j d z := by
  refine ⟨⟨sA_size _ _ _, fun k hk => ?_, ⟨a, c, ?_⟩, ?_⟩, ?_, ?_, ?_, ?_⟩
  · rw [sA_get _ _ _ _ (by omega), if_pos (by omega), show 3 + k - 3 = k by omega, List.getElem?_set, if_neg (by omega), List.getElem?_set, if_neg (by omega), iz, List.getElem?_append_left (by rw [vk_len]; exact hk)]
  · rw [sA_get _ _ _ _ (by omega), if_pos (by omega)]; simp [iz_len]
  · rw [sA_get _ _ _ _ (by omega), if_pos (by omega)]; simp [iz_len]
  · rw [sA_get _ _ _ _ (by omega), if_neg (by omega)]; simp [z53_len]
  · rw [sA_get _ _ _ _ (by omega), if_neg (by omega)]; simp [z53_len]
  · rw [sA_get _ _ _ _ (by omega), if_neg (by omega)]; simp [z53_len]
  · rw [sA, Array.getElem?_setIfInBounds, if_pos rfl, if_pos (by simp [size_putA, z53_len])]
theorem nonnil {L : List Value} {n : Nat} (h : L.length = n + 1) : ¬ L = [] := by rintro rfl; cases h
theorem ld_all {w : World} {b n : Nat} {L : List Value} {t : TypeId} (hb : w.heap[b]? = some (.cells L.toArray t (0, 0))) (hn : L.length = n) : (loadCells ⟨b, 0, none⟩ n).run Yba.prog w = .ok L.toArray w := by
  subst hn
  exact lcAt (o := 0) hb (fun j hj => by simp)
theorem info5 : ∃ ti, Yba.prog.info? 5 = some ti ∧ ti.zero = some (.int .u8 0) ∧ ti.size = 1 ∧ ti.bytes = 1 := by
  have h1 : (Yba.prog.info? 5).map (fun t => (t.size, t.bytes)) = some (1, 1) := by kernel_rfl
  have h2 : (Yba.prog.info? 5).bind (fun t => t.zero) = some (.int .u8 0) := by kernel_rfl
  cases h : Yba.prog.info? 5 with
  | none => rw [h] at h1; cases h1
  | some ti =>
    rw [h] at h1 h2
    simp only [Option.map_some, Option.some.injEq, Prod.mk.injEq, Option.bind_some] at h1 h2
    exact ⟨ti, rfl, h2, h1.1, h1.2⟩
theorem make5 (n : Nat) (hn : n ≤ 256) (w : World) : ∃ C : Array Value, (Instr.makeSlice 23 (.int .i64 (n : Int)) (.int .i64 (n : Int))).run Yba.prog w = .ok (.slice (some ⟨w.heap.size, 0, none⟩) n n) (w.alloc (.cells C 5 (0, 0))) := by
  obtain ⟨ti, h1, h2, h3, h4⟩ := info5
  have := run_make (P := Yba.prog) w 23 5 ti _ Yba.underlying23 h1 h2 .i64 .i64 (n : Int) (n : Int) (by omega) (by omega) (by rw [h4]; omega) (by omega)
  simp only [Int.toNat_natCast] at this
  exact ⟨_, this⟩
noncomputable def sg (d j : Nat) (sl : Value) : List Value := (putA (((z53.set 0 (.int .u64 (d : Nat))).set 1 (.int .i64 0)).set 2 (.pointer none)).toArray 3 (((iz j).set 129 sl).set 130 (.int .i64 0))).toList
theorem sg_len (d j : Nat) (sl : Value) : (sg d j sl).length = 135 := by simp [sg, size_putA, z53_len]
theorem fold53 (d j : Nat) (sl : Value) : List.foldl (fun cs x => cs.setIfInBounds (3 + x.2) x.1) (((z53.set 0 (.int .u64 (d : Nat))).set 1 (.int .i64 0)).set 2 (.pointer none)).toArray (((iz j).set 129 sl).set 130 (.int .i64 0)).zipIdx = (sg d j sl).toArray := by
  rw [fold_put, sg]
theorem sg_set (d j : Nat) (sl : Value) : ((sg d j sl).set 134 (.int .i64 (j : Nat))).toArray = sA d j sl := by
  rw [sA, sg, ← List.setIfInBounds_toArray]
theorem add0 (d : Nat) (hd : d < 65536) (w : World) : Calls Yba.prog 11 #[.agg #[.int .u64 0, .int .i64 0, .pointer none], .int .i64 (d : Nat)] w fun e w' => e = .returned (.agg #[.int .u64 (d : Nat), .int .i64 0, .pointer none]) ∧ Below w.heap.size w w' := by
  refine (add_eq 0 0 (d : Int) w (by omega) (by omega) (by omega) (by omega) (by omega) (by omega)).mono ?_
  rintro e w3 ⟨rfl, hw3⟩
  refine ⟨?_, ?_⟩
  · have e1 : ((0 : Int) + (d : Int)) % 1000000000 = d := by omega
    have e2 : (0 : Int) + ((0 : Int) + (d : Int)) / 1000000000 = 0 := by omega
    rw [e1, e2]
  · rw [hw3]; exact ((Below.refl _ _).alloc (Nat.le_refl _) _).alloc (by simp) _
theorem info47 : ∃ ti, Yba.prog.info? 47 = some ti ∧ ti.zero = some (.pointer none) ∧ ti.size = 1 ∧ ti.bytes = 8 := by
  have h1 : (Yba.prog.info? 47).map (fun t => (t.size, t.bytes)) = some (1, 8) := by kernel_rfl
  have h2 : (Yba.prog.info? 47).bind (fun t => t.zero) = some (.pointer none) := by kernel_rfl
  cases h : Yba.prog.info? 47 with
  | none => rw [h] at h1; cases h1
  | some ti =>
    rw [h] at h1 h2
    simp only [Option.map_some, Option.some.injEq, Prod.mk.injEq, Option.bind_some] at h1 h2
    exact ⟨ti, rfl, h2, h1.1, h1.2⟩
theorem sc1 {w : World} {s o : Nat} {v u : Value} (hc : w.cell? ⟨s, o, none⟩ = some u) (hf : w.frozen? ⟨s, o, none⟩ = false) (h1 : v.oneCell' = true) : (storeCells ⟨s, o, none⟩ [v]).run Yba.prog w = .ok () (w.setCell ⟨s, o, none⟩ v) := by
  have := run_storeCells_cells (P := Yba.prog) s o [v] 0 w (fun j hj => by
    have : j = 0 := by simpa using hj
    subst this; simp [hc]) (fun j hj => by
    have : j = 0 := by simpa using hj
    subst this; simp [hf]) (fun x hx => by rw [List.mem_singleton.1 hx]; exact h1)
  simpa [storeCells, World.setCells] using this
end Go.Proofs.Ybulkamjs
