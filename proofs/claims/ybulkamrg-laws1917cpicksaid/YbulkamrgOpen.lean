/- The arguments of LawS1917CPick, opened. -/
import Derived.Test.YbulkamrgLawLib
import Derived.Deep.Slices
import Derived.Deep.Strs
import Derived.ProofKit
namespace Go.Proofs.Ybulkamrg
open Go.RowKit Go.ChangeShapes Go.WideShapes Go.Deep
set_option linter.unusedVariables false

theorem cells5 : Yba.prog.cellsOf 5 = 1 := by kernel_rfl
theorem cells24 : Yba.prog.cellsOf 24 = 1 := by kernel_rfl
theorem cells27 : Yba.prog.cellsOf 27 = 3 := by kernel_rfl
theorem wf_u8 {n : Int} (h : (Lit.int .u8 n).wf = true) : 0 ≤ n ∧ n < 256 := by
  have h2 : IntKind.u8.min = 0 := rfl
  have h3 : IntKind.u8.max = 255 := rfl
  simp [Lit.wf, h2, h3] at h
  omega
theorem add_pos (x : Addr) (k : Nat) (h : k ≠ 0) : x.add k = ⟨x.block, x.off + k, none⟩ := by simp [Addr.add, h]
section
variable {H : Type} {enc : TypeId × Value → H} {w : World} {base : Nat} {spare : Nat → Bool} {held : Bool}
theorem open_bytes {fuel : Nat} {cs : List Value} {x : DataW H × List MemPlace} (h : DataW.trod enc Yba.prog w base spare held fuel 24 cs = some x) : ∃ (a : Option Addr) (bs : List Nat) (cap : Nat), cs = [.slice a bs.length cap] ∧ Bytes w a bs := by
  rcases open_ints Yba.underlying24 Yba.underlying5 cells5 h with ⟨rfl, _⟩ | ⟨a, len, cap, zs, rfl, _, hl, _, hz, _, hcell, hwz⟩
  · exact ⟨none, [], 0, rfl, fun i b hb => by simp at hb⟩
  · have hlz : len ≤ zs.length := by rw [hz]; split <;> omega
    refine ⟨some a, (zs.take len).map Int.toNat, cap, ?_, fun i b hb => ?_⟩
    · simp [Nat.min_eq_left hlz]
    · rw [List.getElem?_map, List.getElem?_take] at hb
      split at hb
      · rename_i hi
        have hi2 : i < zs.length := by omega
        rw [List.getElem?_eq_getElem hi2] at hb
        simp only [Option.map_some, Option.some.injEq] at hb
        have hw := wf_u8 (hwz _ (List.getElem_mem hi2))
        have hc := hcell i hi2
        rw [List.getD_eq_getElem?_getD, List.getElem?_eq_getElem hi2, Option.getD_some] at hc
        refine ⟨by omega, a, rfl, ?_⟩
        rw [hc, ← hb, Int.toNat_of_nonneg hw.1]
      · cases hb
theorem open_sets {fuel : Nat} {cs : List Value} {x : DataW H × List MemPlace} (h : DataW.trod enc Yba.prog w base spare held fuel 23 cs = some x) : ∃ (a : Option Addr) (zb : List ZB) (cap : Nat), cs = [.slice a zb.length cap] ∧ ZSets w a zb := by
  rcases open_slice1 Yba.underlying23 cells24 h with ⟨rfl, _⟩ | ⟨a, len, cap, m, n, V, D, Pl, rfl, _, hl, _, hm, _, hx⟩
  · exact ⟨none, [], 0, rfl, fun i b hb => by simp at hb⟩
  · have hlm : len ≤ m := by rw [hm]; split <;> omega
    haveI : Inhabited ZB := ⟨⟨none, 0, []⟩⟩
    obtain ⟨f, hf⟩ := choose_lt (α := ZB) (n := len) (p := fun i z => w.cell? (a.add i) = some (.slice z.a z.bs.length z.cap) ∧ Bytes w z.a z.bs) (fun i hi => by
      obtain ⟨h1, h2⟩ := hx i (by omega)
      obtain ⟨b, bs, c, hc, hb⟩ := open_bytes h2
      exact ⟨⟨b, c, bs⟩, by rw [h1]; simpa using hc, hb⟩)
    refine ⟨some a, (List.range len).map f, cap, by simp, fun i z hz => ?_⟩
    rw [List.getElem?_map] at hz
    by_cases hi : i < len
    · rw [List.getElem?_range hi] at hz
      simp only [Option.map_some, Option.some.injEq] at hz
      subst hz
      exact ⟨(hf i hi).2, a, rfl, (hf i hi).1⟩
    · rw [List.getElem?_eq_none (by simpa using hi)] at hz; cases hz
set_option maxRecDepth 20000 in
theorem open_srvs {fuel : Nat} {cs : List Value} {x : DataW H × List MemPlace} (h : DataW.trod enc Yba.prog w base spare held fuel 22 cs = some x) : ∃ (a : Option Addr) (zs : List ZS) (cap : Nat), cs = [.slice a zs.length cap] ∧ ZSrvs w a zs := by
  rcases open_slice Yba.underlying22 h with ⟨rfl, _⟩ | ⟨a, len, cap, m, n, D, Pl, rfl, _, hl, _, hm, _, hx⟩
  · exact ⟨none, [], 0, rfl, fun i b hb => by simp at hb⟩
  · have hlm : len ≤ m := by rw [hm]; split <;> omega
    haveI : Inhabited ZS := ⟨⟨0, 0, none, 0, []⟩⟩
    rw [cells27] at hx
    obtain ⟨f, hf⟩ := choose_lt (α := ZS) (n := len) (p := fun i z => z.ab < 256 ∧ z.tb < 256 ∧ Bytes w z.ta z.tags ∧ w.cell? (a.add (i * 3)) = some (.int .u8 z.ab) ∧ w.cell? ⟨a.block, a.off + i * 3 + 1, none⟩ = some (.int .u8 z.tb) ∧ w.cell? ⟨a.block, a.off + i * 3 + 2, none⟩ = some (.slice z.ta z.tags.length z.tcap)) (fun i hi => by
      obtain ⟨cs, h1, h2⟩ := hx i (by omega)
      obtain ⟨y0, y1, y2, n', _, hlen, t0, t1, t2⟩ := trod_struct3 Yba.underlying27 h2
      obtain ⟨_, hcl, hcc⟩ := World.cells?_some h1
      obtain ⟨c0, c1, c2, rfl⟩ : ∃ c0 c1 c2, cs = [c0, c1, c2] := by
        match cs, hcl with
        | [c0, c1, c2], _ => exact ⟨c0, c1, c2, rfl⟩
      · skip
        simp only [cells5, cells24, List.drop, List.take] at t0 t1 t2
        obtain ⟨m0, e0, _, w0⟩ := DataW.trod_int Yba.underlying5 t0
        obtain ⟨m1, e1, _, w1⟩ := DataW.trod_int Yba.underlying5 t1
        obtain ⟨b, bs, c, e2, hb⟩ := open_bytes t2
        have k0 := wf_u8 w0
        have k1 := wf_u8 w1
        have c0' := hcc 0 (by omega)
        have c1' := hcc 1 (by omega)
        have c2' := hcc 2 (by omega)
        simp only [List.cons.injEq, and_true] at e0 e1 e2
        subst e0 e1 e2
        rw [add_add] at c0' c1' c2'
        rw [add_pos _ _ (by omega)] at c1' c2'
        refine ⟨⟨m0.toNat, m1.toNat, b, c, bs⟩, by simp; omega, by simp; omega, hb, ?_, ?_, ?_⟩
        · simpa [Int.toNat_of_nonneg k0.1] using c0'
        · simpa [Int.toNat_of_nonneg k1.1, Nat.add_assoc] using c1'
        · simpa [Nat.add_assoc] using c2')
    refine ⟨some a, (List.range len).map f, cap, by simp, fun i z hz => ?_⟩
    rw [List.getElem?_map] at hz
    by_cases hi : i < len
    · rw [List.getElem?_range hi] at hz
      simp only [Option.map_some, Option.some.injEq] at hz
      subst hz
      obtain ⟨q1, q2, q3, q4, q5, q6⟩ := hf i hi
      exact ⟨q1, q2, q3, a, rfl, q4, q5, q6⟩
    · rw [List.getElem?_eq_none (by simpa using hi)] at hz; cases hz
end
end Go.Proofs.Ybulkamrg
