/- The keys of the store's maps: typedKey (65 cells) and valueKey (129 cells) of the i-th value. -/
import Derived.Test.YbulkamjsQu
namespace Go.Proofs.Ybulkamjs
open Go.RowKit Go.Maps Go.WideMaps
set_option linter.unusedVariables false

theorem laidOutA : laidOutB Yba.prog = true := by kernel_rfl
theorem keyed44 : Keyed Yba.prog 44 := Keyed.of_law (deep_law_laid (m := 9) laidOutA (by omega) (of_decide_eq_true (by kernel_rfl)) (by kernel_rfl) (by kernel_rfl))
theorem keyed46 : Keyed Yba.prog 46 := Keyed.of_law (deep_law_laid (m := 9) laidOutA (by omega) (of_decide_eq_true (by kernel_rfl)) (by kernel_rfl) (by kernel_rfl))

/-- The i-th id of law A. -/
def aid (i : Nat) : List Value := (zid.set 0 (.int .u8 (i / 256 : Nat))).set 1 (.int .u8 (i % 256 : Nat))
theorem aid_len (i : Nat) : (aid i).length = 64 := by simp [aid, zid_len]
def tk (i : Nat) : List Value := aid i ++ [.int .u16 1]
def vk (i : Nat) : List Value := tk i ++ aid i
theorem tk_len (i : Nat) : (tk i).length = 65 := by simp [tk, aid_len]
theorem vk_len (i : Nat) : (vk i).length = 129 := by simp [vk, tk_len, aid_len]
theorem aid_one (i : Nat) : ∀ v ∈ aid i, v.oneCell' = true := by
  intro v hv
  rcases List.mem_or_eq_of_mem_set hv with hv | rfl
  · rcases List.mem_or_eq_of_mem_set hv with hv | rfl
    · exact zid_all v hv
    · rfl
  · rfl
theorem tk_one (i : Nat) : ∀ v ∈ tk i, v.oneCell' = true := by
  intro v hv
  rw [tk, List.mem_append, List.mem_singleton] at hv
  exact hv.elim (aid_one i v) (fun e => by rw [e]; rfl)
theorem vk_one (i : Nat) : ∀ v ∈ vk i, v.oneCell' = true := by
  intro v hv
  rw [vk, List.mem_append] at hv
  exact hv.elim (tk_one i v) (aid_one i v)
theorem aid_inj {i j : Nat} (e : aid i = aid j) : i = j := by
  have h0 : (aid i)[0]? = (aid j)[0]? := by rw [e]
  have h1 : (aid i)[1]? = (aid j)[1]? := by rw [e]
  have z := zid_len
  simp only [aid, List.getElem?_set, List.length_set, z] at h0 h1
  simp at h0 h1
  omega
theorem tk_inj {i j : Nat} (e : tk i = tk j) : i = j := aid_inj (List.append_inj_left' e rfl)
theorem vk_inj {i j : Nat} (e : vk i = vk j) : i = j := tk_inj (List.append_inj_left e (by rw [tk_len, tk_len]))

def U8 (v : Value) : Prop := ∃ n : Int, v = .int .u8 n ∧ 0 ≤ n ∧ n < 256
theorem aid_u8 {i : Nat} (hi : i < 65536) : ∀ v ∈ aid i, U8 v := by
  intro v hv
  rcases List.mem_or_eq_of_mem_set hv with hv | rfl
  · rcases List.mem_or_eq_of_mem_set hv with hv | rfl
    · rw [zid] at hv; rw [List.eq_of_mem_replicate hv]; exact ⟨0, rfl, by omega, by omega⟩
    · exact ⟨_, rfl, by omega, by omega⟩
  · exact ⟨_, rfl, by omega, by omega⟩
theorem mapM_some {α β : Type} (g : α → Option β) : ∀ L : List α, (∀ x ∈ L, (g x).isSome = true) → (L.mapM g).isSome = true
  | [], _ => rfl
  | x :: r, h => by
    obtain ⟨y, hy⟩ := Option.isSome_iff_exists.1 (h x (by simp))
    obtain ⟨ys, hys⟩ := Option.isSome_iff_exists.1 (mapM_some g r (fun z hz => h z (by simp [hz])))
    simp [hy, hys]
theorem cells40 : Yba.prog.cellsOf 40 = 64 := by kernel_rfl
theorem cells5' : Yba.prog.cellsOf 5 = 1 := by kernel_rfl
theorem cells42 : Yba.prog.cellsOf 42 = 1 := by kernel_rfl
theorem cells44 : Yba.prog.cellsOf 44 = 65 := by kernel_rfl
theorem cells46 : Yba.prog.cellsOf 46 = 129 := by kernel_rfl
theorem under5 : Yba.prog.underlying 5 = some (.int .u8) := by kernel_rfl
theorem under42 : Yba.prog.underlying 42 = some (.int .u16) := by kernel_rfl
theorem lits5 (D : Nat) {v : Value} (h : U8 v) : (Yba.prog.keyLits (D + 1) 5 [v]).isSome = true := by
  obtain ⟨n, rfl, h0, h1⟩ := h
  have hw : (Lit.int .u8 n).wf = true := by
    have h2 : IntKind.u8.min = 0 := rfl
    have h3 : IntKind.u8.max = 255 := rfl
    simp [Lit.wf, h2, h3]; omega
  unfold Program.keyLits
  simp only [under5]
  simp [hw]
theorem lits40 (D : Nat) {cs : List Value} (hl : cs.length = 64) (h : ∀ v ∈ cs, U8 v) : (Yba.prog.keyLits (D + 2) 40 cs).isSome = true := by
  unfold Program.keyLits
  simp only [under40]
  simp only [cells40, cells5', hl, if_true, Option.isSome_map, Nat.mul_one]
  refine mapM_some _ _ (fun i hi => ?_)
  have hi' : i < cs.length := by rw [hl]; simpa using hi
  have : (cs.drop i).take 1 = [cs[i]] := by
    rw [List.drop_eq_getElem_cons hi']; rfl
  rw [this]
  exact lits5 D (h _ (List.getElem_mem hi'))
theorem lits42 (D : Nat) : (Yba.prog.keyLits (D + 1) 42 [.int .u16 1]).isSome = true := by
  unfold Program.keyLits
  simp only [under42]
  rfl
theorem lits44 (D : Nat) {i : Nat} (hi : i < 65536) : (Yba.prog.keyLits (D + 3) 44 (tk i)).isSome = true := by
  unfold Program.keyLits
  simp only [Yba.underlying44]
  simp only [cells44, tk_len]
  rw [if_pos ⟨trivial, by kernel_rfl⟩, Option.isSome_map]
  refine mapM_some _ _ (fun f hf => ?_)
  simp only [List.mem_cons, List.not_mem_nil, or_false] at hf
  rcases hf with rfl | rfl
  · simp only [cells40, List.drop_zero]
    rw [show (tk i).take 64 = aid i by rw [tk, List.take_left' (aid_len i)]]
    exact lits40 D (aid_len i) (aid_u8 hi)
  · simp only [cells42]
    rw [show ((tk i).drop 64).take 1 = [.int .u16 1] by rw [tk, List.drop_left' (aid_len i)]; rfl]
    exact lits42 (D + 1)
theorem lits46 (D : Nat) {i : Nat} (hi : i < 65536) : (Yba.prog.keyLits (D + 4) 46 (vk i)).isSome = true := by
  unfold Program.keyLits
  simp only [Yba.underlying46]
  simp only [cells46, vk_len]
  rw [if_pos ⟨trivial, by kernel_rfl⟩, Option.isSome_map]
  refine mapM_some _ _ (fun f hf => ?_)
  simp only [List.mem_cons, List.not_mem_nil, or_false] at hf
  rcases hf with rfl | rfl
  · simp only [cells44, List.drop_zero]
    rw [show (vk i).take 65 = tk i by rw [vk, List.take_left' (tk_len i)]]
    exact lits44 D hi
  · simp only [cells40]
    rw [show ((vk i).drop 65).take 64 = aid i by rw [vk, List.drop_left' (tk_len i)]; exact List.take_of_length_le (by rw [aid_len]; omega)]
    exact lits40 (D + 1) (aid_len i) (aid_u8 hi)
theorem types_big : ∃ D, Yba.prog.types.size + 1 = D + 4 := by
  have : 4 ≤ Yba.prog.types.size := of_decide_eq_true (by kernel_rfl)
  exact ⟨Yba.prog.types.size - 3, by omega⟩
noncomputable def kT (i : Nat) : Lit := (keyOf Yba.prog 44 (.agg (tk i).toArray)).getD (.bool false)
noncomputable def kV (i : Nat) : Lit := (keyOf Yba.prog 46 (.agg (vk i).toArray)).getD (.bool false)
theorem keyT44 : Yba.prog.keyType 44 = true := by kernel_rfl
theorem keyT46 : Yba.prog.keyType 46 = true := by kernel_rfl
theorem keyT {i : Nat} (hi : i < 65536) : keyOf Yba.prog 44 (.agg (tk i).toArray) = some (kT i) := by
  have : (keyOf Yba.prog 44 (.agg (tk i).toArray)).isSome = true := by
    obtain ⟨D, hD⟩ := types_big
    rw [keyOf, Yba.underlying44]
    simp only [keyT44, Value.formed, Yba.underlying44, cells44, Value.cells, hD, List.size_toArray, tk_len]
    simpa using lits44 (D + 1) hi
  obtain ⟨l, hl⟩ := Option.isSome_iff_exists.1 this
  rw [kT, hl]; rfl
theorem keyV {i : Nat} (hi : i < 65536) : keyOf Yba.prog 46 (.agg (vk i).toArray) = some (kV i) := by
  have : (keyOf Yba.prog 46 (.agg (vk i).toArray)).isSome = true := by
    obtain ⟨D, hD⟩ := types_big
    rw [keyOf, Yba.underlying46]
    simp only [keyT46, Value.formed, Yba.underlying46, cells46, Value.cells, hD, List.size_toArray, vk_len]
    simpa using lits46 D hi
  obtain ⟨l, hl⟩ := Option.isSome_iff_exists.1 this
  rw [kV, hl]; rfl
set_option maxRecDepth 20000 in
theorem kT_inj {i j : Nat} (hi : i < 65536) (hj : j < 65536) (e : kT i = kT j) : i = j := by
  have h3 : Value.agg (tk i).toArray = Value.agg (tk j).toArray := keyed44.inj (keyT hi) (by rw [e]; exact keyT hj)
  exact tk_inj (List.toArray_inj (Value.agg.inj h3))
set_option maxRecDepth 20000 in
theorem kV_inj {i j : Nat} (hi : i < 65536) (hj : j < 65536) (e : kV i = kV j) : i = j := by
  have h3 : Value.agg (vk i).toArray = Value.agg (vk j).toArray := keyed46.inj (keyV hi) (by rw [e]; exact keyV hj)
  exact vk_inj (List.toArray_inj (Value.agg.inj h3))
end Go.Proofs.Ybulkamjs
