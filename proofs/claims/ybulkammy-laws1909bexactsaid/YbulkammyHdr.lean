import Derived.Test.YbulkammyOnes
import Derived.Deep.OwnRows
import Derived.Lib.SlBuf
namespace Go.Proofs.Ybulkammy
open Go.RowKit
set_option linter.unusedVariables false
set_option linter.unusedSimpArgs false

theorem info5 : (Yba.prog.info? 5).map (fun i => (i.zero, i.size, i.bytes)) = some (some (.int .u8 0), 1, 1) := by kernel_rfl
theorem size5 : (Yba.prog.info? 5).map (·.size) = some 1 := by kernel_rfl

/-- a list of octets as cells -/
def octs (d : Nat → Int) (k : Nat) : List Value := (List.range k).map fun i => .int .u8 (d i)
theorem octs_len (d : Nat → Int) (k : Nat) : (octs d k).length = k := by simp [octs]
theorem octs_get (d : Nat → Int) (k j : Nat) (h : j < k) : (octs d k)[j]? = some (.int .u8 (d j)) := by simp [octs, h]

/-- A new row of n octets, all 0, over which k octets have been copied. -/
theorem copied (w : World) (n k : Nat) (d : Nat → Int) (hk : k ≤ n) (i : Nat) (hi : i < n) :
    ((w.alloc (.cells (madeCells #[.int .u8 0] n) 5)).setCells w.heap.size 0 (octs d k)).cell? ⟨w.heap.size, i, none⟩ = some (.int .u8 (if i < k then d i else 0)) := by
  have h0 : ∀ j, j < n → (w.alloc (.cells (madeCells #[.int .u8 0] n) 5)).cell? ⟨w.heap.size, j, none⟩ = some (.int .u8 0) := by
    intro j hj; simp [madeCells, hj, Nat.mod_one]
  by_cases h : i < k
  · have := World.cell?_setCells_in w.heap.size (octs d k) 0 (w.alloc (.cells (madeCells #[.int .u8 0] n) 5)) (fun j hj => by rw [octs_len] at hj; rw [Nat.zero_add, h0 j (by omega)]; rfl) i (by rw [octs_len]; exact h)
    rw [Nat.zero_add] at this
    rw [this, if_pos h]
    simp [octs]
  · rw [World.cell?_setCells_out _ _ _ _ _ (fun _ _ => Or.inr (by rw [octs_len]; simp; omega)), h0 i hi, if_neg h]

theorem copied_frozen (w : World) (n k : Nat) (d : Nat → Int) (i : Nat) :
    ((w.alloc (.cells (madeCells #[.int .u8 0] n) 5)).setCells w.heap.size 0 (octs d k)).frozen? ⟨w.heap.size, i, none⟩ = false := by
  rw [World.frozen?_setCells]; simp

theorem copied_run (w : World) (n : Nat) (a0 : Option Addr) (len cap : Nat) (d : Nat → Int) (hl : len ≤ n) (ty : TypeId)
    (hnil : a0 = none → len = 0) (hc : ∀ x, a0 = some x → ∀ i, i < len → w.cell? (x.add i) = some (.int .u8 (d i))) :
    (Builtin.copy_ #[22, 22] ty #[.slice (some ⟨w.heap.size, 0, none⟩) n n, .slice a0 len cap]).run Yba.prog (w.alloc (.cells (madeCells #[.int .u8 0] n) 5)) =
      .ok (goInt len) ((w.alloc (.cells (madeCells #[.int .u8 0] n) 5)).setCells w.heap.size 0 (octs d len)) := by
  cases a0 with
  | none =>
    have := hnil rfl; subst this
    rw [run_copy_none _ 22 22 ty 5 _ _ _ _ _ _ Yba.underlying22 size5 (by simp)]
    rfl
  | some x =>
    have h0 : ∀ j, j < n → (w.alloc (.cells (madeCells #[.int .u8 0] n) 5)).cell? ⟨w.heap.size, j, none⟩ = some (.int .u8 0) := by
      intro j hj; simp [madeCells, hj, Nat.mod_one]
    have := run_copy_cells (P := Yba.prog) (w.alloc (.cells (madeCells #[.int .u8 0] n) 5)) 22 22 ty 5 w.heap.size 0 n n x len cap (octs d len) Yba.underlying22 size5
      (by rw [octs_len]; exact (Nat.min_eq_left hl).symm)
      (by
        intro j v hv
        have hj : j < len := by
          have := List.getElem?_eq_some_iff.1 hv; obtain ⟨h, _⟩ := this; rw [octs_len] at h; exact h
        rw [octs_get d len j hj] at hv
        have h1 := hc x rfl j hj
        rw [World.cell?_alloc_lt _ _ _ (World.block_lt_of_cell? _ _ h1), h1]; exact hv)
      (by intro j hj; rw [octs_len] at hj; rw [Nat.zero_add, h0 j (by omega)]; rfl)
      (by intro j hj; simp)
      (by intro v hv; simp only [octs, List.mem_map] at hv; obtain ⟨_, _, rfl⟩ := hv; rfl)
    rw [octs_len] at this
    exact this

theorem below_setCells {B : Nat} {w w' : World} (h : Below B w w') (g : Nat) (hg : B ≤ g) : ∀ (cs : List Value) (o : Nat) (w' : World), Below B w w' → Below B w (w'.setCells g o cs)
  | [], _, _, h => h
  | c :: cs, o, w', h => below_setCells (h.setCell (p := ⟨g, o, none⟩) hg c) g hg cs (o + 1) _ (h.setCell (p := ⟨g, o, none⟩) hg c)

theorem size_setCells (g : Nat) : ∀ (cs : List Value) (o : Nat) (w : World), (w.setCells g o cs).heap.size = w.heap.size
  | [], _, _ => rfl
  | c :: cs, o, w => by
    show ((w.setCell ⟨g, o, none⟩ c).setCells g (o + 1) cs).heap.size = _
    rw [size_setCells g cs (o + 1)]; simp [World.setCell]

set_option maxHeartbeats 1000000 in
theorem hdr_any (a0 : Option Addr) (len cap n : Nat) (d : Nat → Int) (w : World) (hlen : len ≤ 1024) (hn : n = if len < 20 then 20 else len)
    (hnil : a0 = none → len = 0) (hc : ∀ x, a0 = some x → ∀ i, i < len → w.cell? (x.add i) = some (.int .u8 (d i))) :
    Calls Yba.prog 5 #[.slice a0 len cap] w fun e w' => e = .returned (.slice (some ⟨w.heap.size, 0, none⟩) n n) ∧ w' = (w.alloc (.cells (madeCells #[.int .u8 0] n) 5)).setCells w.heap.size 0 (octs d len) := by
  have hmk := fun w => run_make_row' (P := Yba.prog) 22 5 (.int .u8 0) 1 Yba.underlying22 info5 rfl .i64 .i64 n (by split at hn <;> omega) (by split at hn <;> omega) w
  have HR : Hid _ := copied_run w n a0 len cap d (by split at hn <;> omega) 3 hnil hc
  clear hc hnil
  by_cases hlt : len < 20
  · obtain rfl : n = 20 := by rw [hn, if_pos hlt]
    have hI : (len : Int) < 20 := by omega
    have hmk' : ∀ w : World, (Instr.makeSlice 22 (.int .i64 20) (.int .i64 20)).run Yba.prog w = .ok (.slice (some ⟨w.heap.size, 0, none⟩) 20 20) (w.alloc (.cells (madeCells #[.int .u8 0] 20) 5)) := hmk
    clear hmk hn
    go_enter Yba.func5, Yba.ntmps5
    go_wp2_with (first | (refine Lib.wpList_copy_run _ rfl _ _ 22 22 rfl _ _ rfl rfl HR.out ?_))
    go_ret
    exact ⟨rfl, rfl⟩
  · obtain rfl : n = len := by rw [hn, if_neg hlt]
    have hI : ¬ (n : Int) < 20 := by omega
    clear hn
    go_enter Yba.func5, Yba.ntmps5
    go_wp2_with (first | (refine Lib.wpList_copy_run _ rfl _ _ 22 22 rfl _ _ rfl rfl HR.out ?_))
    go_ret
    exact ⟨rfl, rfl⟩

end Go.Proofs.Ybulkammy
