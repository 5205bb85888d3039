import Derived.Test.YbulkammyDoorCap
import Derived.LaidEqlPtr
namespace Go.Proofs.YbulkammyDoor
open Go.RowKit
set_option linter.unusedVariables false
set_option linter.unusedSimpArgs false

theorem info_pte : ∃ j, Ybad.prog.info? (Ybad.prog.pointee 28) = some j := by
  have h : (Ybad.prog.info? (Ybad.prog.pointee 28)).isSome = true := by kernel_rfl
  exact Option.isSome_iff_exists.1 h

theorem eqp (d : Nat) (za : Addr) (w : World) : (Op.equalIn (d + 1) 28 (.pointer (some za)) (.pointer (some za))).run Ybad.prog w = .ok true w := by
  obtain ⟨j, hj⟩ := info_pte
  have hp : Ybad.prog.underlying 28 = some (.pointer (Ybad.prog.pointee 28)) := by kernel_rfl
  simp [Op.equalIn, run_underlying hp, sizeOf, typeInfo, hj, run_sameAddr_same]

set_option maxHeartbeats 4000000 in
theorem same_apart_no (bi br : Nat) (i r x y pi pr px py : Int) (za : Addr) (w : World) (hir : (281470849515520 + i == 281470849515520 + r) = false) (hxy : (281470849515520 + x == 281470849515520 + y) = false) (hbi : bi < w.heap.size) (hbr : br < w.heap.size)
    (ci0 : w.cell? ⟨bi, 0, none⟩ = some (.int .u64 0)) (ci1 : w.cell? ⟨bi, 1, none⟩ = some (.int .u64 (281470849515520 + i))) (ci2 : w.cell? ⟨bi, 2, none⟩ = some (.pointer (some za))) (ci3 : w.cell? ⟨bi, 3, none⟩ = some (.int .u16 pi))
    (cr0 : w.cell? ⟨br, 0, none⟩ = some (.int .u64 0)) (cr1 : w.cell? ⟨br, 1, none⟩ = some (.int .u64 (281470849515520 + r))) (cr2 : w.cell? ⟨br, 2, none⟩ = some (.pointer (some za))) (cr3 : w.cell? ⟨br, 3, none⟩ = some (.int .u16 pr)) :
    Calls Ybad.prog 9 #[.agg #[.int .u64 0, .int .u64 (281470849515520 + x), .pointer (some za), .int .u16 px], .agg #[.int .u64 0, .int .u64 (281470849515520 + y), .pointer (some za), .int .u16 py], .pointer (some ⟨bi, 0, none⟩), .pointer (some ⟨br, 0, none⟩)] w fun e w' => e = .returned (.bool false) ∧ Below w.heap.size w w' := by
  have gbi1 : bi < w.heap.size + 1 := by omega
  have gbi2 : bi < w.heap.size + 1 + 1 := by omega
  have gbi3 : bi < w.heap.size + 1 + 1 + 1 := by omega
  have gbi4 : bi < w.heap.size + 1 + 1 + 1 + 1 := by omega
  have gbi5 : bi < w.heap.size + 1 + 1 + 1 + 1 + 1 := by omega
  have gbi6 : bi < w.heap.size + 1 + 1 + 1 + 1 + 1 + 1 := by omega
  have gbi7 : bi < w.heap.size + 1 + 1 + 1 + 1 + 1 + 1 + 1 := by omega
  have gbi8 : bi < w.heap.size + 1 + 1 + 1 + 1 + 1 + 1 + 1 + 1 := by omega
  have gbr1 : br < w.heap.size + 1 := by omega
  have gbr2 : br < w.heap.size + 1 + 1 := by omega
  have gbr3 : br < w.heap.size + 1 + 1 + 1 := by omega
  have gbr4 : br < w.heap.size + 1 + 1 + 1 + 1 := by omega
  have gbr5 : br < w.heap.size + 1 + 1 + 1 + 1 + 1 := by omega
  have gbr6 : br < w.heap.size + 1 + 1 + 1 + 1 + 1 + 1 := by omega
  have gbr7 : br < w.heap.size + 1 + 1 + 1 + 1 + 1 + 1 + 1 := by omega
  have gbr8 : br < w.heap.size + 1 + 1 + 1 + 1 + 1 + 1 + 1 + 1 := by omega
  have z98 := fun w => eqp 9997 za w
  have z97 := fun w => eqp 9996 za w
  go_enter Ybad.func9, Ybad.ntmps9
  go_wp2
  go_region_held3 (fun w' => w'.cell? ⟨bi, 0, none⟩ = some (.int .u64 0) ∧ w'.cell? ⟨bi, 1, none⟩ = some (.int .u64 (281470849515520 + i)) ∧ w'.cell? ⟨bi, 2, none⟩ = some (.pointer (some za)) ∧ w'.cell? ⟨bi, 3, none⟩ = some (.int .u16 pi) ∧ w'.cell? ⟨br, 0, none⟩ = some (.int .u64 0) ∧ w'.cell? ⟨br, 1, none⟩ = some (.int .u64 (281470849515520 + r)) ∧ w'.cell? ⟨br, 2, none⟩ = some (.pointer (some za)) ∧ w'.cell? ⟨br, 3, none⟩ = some (.int .u16 pr))
    (refine ⟨?_, ?_, ?_, ?_, ?_, ?_, ?_, ?_⟩ <;> go_simp)
    (first | (go_at_call 10; refine (addr_eq _ _ za _).mono ?_; rintro e w' ⟨rfl, rfl⟩))
  rename_i hHeld
  clear hHeld
  go_wp2
  go_region_held3 (fun w' => w'.cell? ⟨w.heap.size, 0, none⟩ = some (.int .u64 0) ∧ w'.cell? ⟨w.heap.size, 1, none⟩ = some (.int .u64 (281470849515520 + x)) ∧ w'.cell? ⟨w.heap.size, 2, none⟩ = some (.pointer (some za)) ∧ w'.cell? ⟨w.heap.size, 3, none⟩ = some (.int .u16 px) ∧ w'.cell? ⟨w.heap.size + 1, 0, none⟩ = some (.int .u64 0) ∧ w'.cell? ⟨w.heap.size + 1, 1, none⟩ = some (.int .u64 (281470849515520 + y)) ∧ w'.cell? ⟨w.heap.size + 1, 2, none⟩ = some (.pointer (some za)) ∧ w'.cell? ⟨w.heap.size + 1, 3, none⟩ = some (.int .u16 py))
    (refine ⟨?_, ?_, ?_, ?_, ?_, ?_, ?_, ?_⟩ <;> go_simp)
    (first | (go_at_call 10; refine (addr_eq _ _ za _).mono ?_; rintro e w' ⟨rfl, rfl⟩))
  rename_i hHeld
  clear hHeld
  go_wp2
  go_ret
  exact ⟨rfl, (by repeat (first | exact Below.refl _ _ | refine Below.drew ?_ | refine below_drewN ?_ _ | refine Below.alloc ?_ (by first | omega | (simp; done) | (simp; omega)) _))⟩

set_option maxHeartbeats 4000000 in
theorem same_apart_yes (bi br : Nat) (i r x pi pr px py : Int) (za : Addr) (w : World) (hir : (281470849515520 + i == 281470849515520 + r) = false) (hbi : bi < w.heap.size) (hbr : br < w.heap.size)
    (ci0 : w.cell? ⟨bi, 0, none⟩ = some (.int .u64 0)) (ci1 : w.cell? ⟨bi, 1, none⟩ = some (.int .u64 (281470849515520 + i))) (ci2 : w.cell? ⟨bi, 2, none⟩ = some (.pointer (some za))) (ci3 : w.cell? ⟨bi, 3, none⟩ = some (.int .u16 pi))
    (cr0 : w.cell? ⟨br, 0, none⟩ = some (.int .u64 0)) (cr1 : w.cell? ⟨br, 1, none⟩ = some (.int .u64 (281470849515520 + r))) (cr2 : w.cell? ⟨br, 2, none⟩ = some (.pointer (some za))) (cr3 : w.cell? ⟨br, 3, none⟩ = some (.int .u16 pr)) :
    Calls Ybad.prog 9 #[.agg #[.int .u64 0, .int .u64 (281470849515520 + x), .pointer (some za), .int .u16 px], .agg #[.int .u64 0, .int .u64 (281470849515520 + x), .pointer (some za), .int .u16 py], .pointer (some ⟨bi, 0, none⟩), .pointer (some ⟨br, 0, none⟩)] w fun e w' => e = .returned (.bool true) ∧ Below w.heap.size w w' := by
  have gbi1 : bi < w.heap.size + 1 := by omega
  have gbi2 : bi < w.heap.size + 1 + 1 := by omega
  have gbi3 : bi < w.heap.size + 1 + 1 + 1 := by omega
  have gbi4 : bi < w.heap.size + 1 + 1 + 1 + 1 := by omega
  have gbi5 : bi < w.heap.size + 1 + 1 + 1 + 1 + 1 := by omega
  have gbi6 : bi < w.heap.size + 1 + 1 + 1 + 1 + 1 + 1 := by omega
  have gbi7 : bi < w.heap.size + 1 + 1 + 1 + 1 + 1 + 1 + 1 := by omega
  have gbi8 : bi < w.heap.size + 1 + 1 + 1 + 1 + 1 + 1 + 1 + 1 := by omega
  have gbr1 : br < w.heap.size + 1 := by omega
  have gbr2 : br < w.heap.size + 1 + 1 := by omega
  have gbr3 : br < w.heap.size + 1 + 1 + 1 := by omega
  have gbr4 : br < w.heap.size + 1 + 1 + 1 + 1 := by omega
  have gbr5 : br < w.heap.size + 1 + 1 + 1 + 1 + 1 := by omega
  have gbr6 : br < w.heap.size + 1 + 1 + 1 + 1 + 1 + 1 := by omega
  have gbr7 : br < w.heap.size + 1 + 1 + 1 + 1 + 1 + 1 + 1 := by omega
  have gbr8 : br < w.heap.size + 1 + 1 + 1 + 1 + 1 + 1 + 1 + 1 := by omega
  have z98 := fun w => eqp 9997 za w
  have z97 := fun w => eqp 9996 za w
  go_enter Ybad.func9, Ybad.ntmps9
  go_wp2
  go_region_held3 (fun w' => w'.cell? ⟨bi, 0, none⟩ = some (.int .u64 0) ∧ w'.cell? ⟨bi, 1, none⟩ = some (.int .u64 (281470849515520 + i)) ∧ w'.cell? ⟨bi, 2, none⟩ = some (.pointer (some za)) ∧ w'.cell? ⟨bi, 3, none⟩ = some (.int .u16 pi) ∧ w'.cell? ⟨br, 0, none⟩ = some (.int .u64 0) ∧ w'.cell? ⟨br, 1, none⟩ = some (.int .u64 (281470849515520 + r)) ∧ w'.cell? ⟨br, 2, none⟩ = some (.pointer (some za)) ∧ w'.cell? ⟨br, 3, none⟩ = some (.int .u16 pr))
    (refine ⟨?_, ?_, ?_, ?_, ?_, ?_, ?_, ?_⟩ <;> go_simp)
    (first | (go_at_call 10; refine (addr_eq _ _ za _).mono ?_; rintro e w' ⟨rfl, rfl⟩))
  rename_i hHeld
  clear hHeld
  go_wp2
  go_region_held3 (fun w' => w'.cell? ⟨w.heap.size, 0, none⟩ = some (.int .u64 0) ∧ w'.cell? ⟨w.heap.size, 1, none⟩ = some (.int .u64 (281470849515520 + x)) ∧ w'.cell? ⟨w.heap.size, 2, none⟩ = some (.pointer (some za)) ∧ w'.cell? ⟨w.heap.size, 3, none⟩ = some (.int .u16 px) ∧ w'.cell? ⟨w.heap.size + 1, 0, none⟩ = some (.int .u64 0) ∧ w'.cell? ⟨w.heap.size + 1, 1, none⟩ = some (.int .u64 (281470849515520 + x)) ∧ w'.cell? ⟨w.heap.size + 1, 2, none⟩ = some (.pointer (some za)) ∧ w'.cell? ⟨w.heap.size + 1, 3, none⟩ = some (.int .u16 py))
    (refine ⟨?_, ?_, ?_, ?_, ?_, ?_, ?_, ?_⟩ <;> go_simp)
    (first | (go_at_call 10; refine (addr_eq _ _ za _).mono ?_; rintro e w' ⟨rfl, rfl⟩))
  rename_i hHeld
  clear hHeld
  go_wp2
  go_ret
  exact ⟨rfl, (by repeat (first | exact Below.refl _ _ | refine Below.drew ?_ | refine below_drewN ?_ _ | refine Below.alloc ?_ (by first | omega | (simp; done) | (simp; omega)) _))⟩

set_option maxHeartbeats 4000000 in
theorem same_one_no (bi br : Nat) (i x y pi pr px py : Int) (za : Addr) (w : World) (hxy : (281470849515520 + x == 281470849515520 + y) = false) (hbi : bi < w.heap.size) (hbr : br < w.heap.size)
    (ci0 : w.cell? ⟨bi, 0, none⟩ = some (.int .u64 0)) (ci1 : w.cell? ⟨bi, 1, none⟩ = some (.int .u64 (281470849515520 + i))) (ci2 : w.cell? ⟨bi, 2, none⟩ = some (.pointer (some za))) (ci3 : w.cell? ⟨bi, 3, none⟩ = some (.int .u16 pi))
    (cr0 : w.cell? ⟨br, 0, none⟩ = some (.int .u64 0)) (cr1 : w.cell? ⟨br, 1, none⟩ = some (.int .u64 (281470849515520 + i))) (cr2 : w.cell? ⟨br, 2, none⟩ = some (.pointer (some za))) (cr3 : w.cell? ⟨br, 3, none⟩ = some (.int .u16 pr)) :
    Calls Ybad.prog 9 #[.agg #[.int .u64 0, .int .u64 (281470849515520 + x), .pointer (some za), .int .u16 px], .agg #[.int .u64 0, .int .u64 (281470849515520 + y), .pointer (some za), .int .u16 py], .pointer (some ⟨bi, 0, none⟩), .pointer (some ⟨br, 0, none⟩)] w fun e w' => e = .returned (.bool false) ∧ Below w.heap.size w w' := by
  have gbi1 : bi < w.heap.size + 1 := by omega
  have gbi2 : bi < w.heap.size + 1 + 1 := by omega
  have gbi3 : bi < w.heap.size + 1 + 1 + 1 := by omega
  have gbi4 : bi < w.heap.size + 1 + 1 + 1 + 1 := by omega
  have gbi5 : bi < w.heap.size + 1 + 1 + 1 + 1 + 1 := by omega
  have gbi6 : bi < w.heap.size + 1 + 1 + 1 + 1 + 1 + 1 := by omega
  have gbi7 : bi < w.heap.size + 1 + 1 + 1 + 1 + 1 + 1 + 1 := by omega
  have gbi8 : bi < w.heap.size + 1 + 1 + 1 + 1 + 1 + 1 + 1 + 1 := by omega
  have gbr1 : br < w.heap.size + 1 := by omega
  have gbr2 : br < w.heap.size + 1 + 1 := by omega
  have gbr3 : br < w.heap.size + 1 + 1 + 1 := by omega
  have gbr4 : br < w.heap.size + 1 + 1 + 1 + 1 := by omega
  have gbr5 : br < w.heap.size + 1 + 1 + 1 + 1 + 1 := by omega
  have gbr6 : br < w.heap.size + 1 + 1 + 1 + 1 + 1 + 1 := by omega
  have gbr7 : br < w.heap.size + 1 + 1 + 1 + 1 + 1 + 1 + 1 := by omega
  have gbr8 : br < w.heap.size + 1 + 1 + 1 + 1 + 1 + 1 + 1 + 1 := by omega
  have z98 := fun w => eqp 9997 za w
  have z97 := fun w => eqp 9996 za w
  go_enter Ybad.func9, Ybad.ntmps9
  go_wp2
  go_region_held3 (fun w' => w'.cell? ⟨bi, 0, none⟩ = some (.int .u64 0) ∧ w'.cell? ⟨bi, 1, none⟩ = some (.int .u64 (281470849515520 + i)) ∧ w'.cell? ⟨bi, 2, none⟩ = some (.pointer (some za)) ∧ w'.cell? ⟨bi, 3, none⟩ = some (.int .u16 pi) ∧ w'.cell? ⟨br, 0, none⟩ = some (.int .u64 0) ∧ w'.cell? ⟨br, 1, none⟩ = some (.int .u64 (281470849515520 + i)) ∧ w'.cell? ⟨br, 2, none⟩ = some (.pointer (some za)) ∧ w'.cell? ⟨br, 3, none⟩ = some (.int .u16 pr))
    (refine ⟨?_, ?_, ?_, ?_, ?_, ?_, ?_, ?_⟩ <;> go_simp)
    (first | (go_at_call 10; refine (addr_eq _ _ za _).mono ?_; rintro e w' ⟨rfl, rfl⟩))
  rename_i hHeld
  clear hHeld
  go_wp2
  go_ret
  exact ⟨rfl, (by repeat (first | exact Below.refl _ _ | refine Below.drew ?_ | refine below_drewN ?_ _ | refine Below.alloc ?_ (by first | omega | (simp; done) | (simp; omega)) _))⟩

set_option maxHeartbeats 4000000 in
theorem same_one_port (bi br : Nat) (i x pi pr px py : Int) (za : Addr) (w : World) (hpp : (px == py) = false) (hbi : bi < w.heap.size) (hbr : br < w.heap.size)
    (ci0 : w.cell? ⟨bi, 0, none⟩ = some (.int .u64 0)) (ci1 : w.cell? ⟨bi, 1, none⟩ = some (.int .u64 (281470849515520 + i))) (ci2 : w.cell? ⟨bi, 2, none⟩ = some (.pointer (some za))) (ci3 : w.cell? ⟨bi, 3, none⟩ = some (.int .u16 pi))
    (cr0 : w.cell? ⟨br, 0, none⟩ = some (.int .u64 0)) (cr1 : w.cell? ⟨br, 1, none⟩ = some (.int .u64 (281470849515520 + i))) (cr2 : w.cell? ⟨br, 2, none⟩ = some (.pointer (some za))) (cr3 : w.cell? ⟨br, 3, none⟩ = some (.int .u16 pr)) :
    Calls Ybad.prog 9 #[.agg #[.int .u64 0, .int .u64 (281470849515520 + x), .pointer (some za), .int .u16 px], .agg #[.int .u64 0, .int .u64 (281470849515520 + x), .pointer (some za), .int .u16 py], .pointer (some ⟨bi, 0, none⟩), .pointer (some ⟨br, 0, none⟩)] w fun e w' => e = .returned (.bool false) ∧ Below w.heap.size w w' := by
  have gbi1 : bi < w.heap.size + 1 := by omega
  have gbi2 : bi < w.heap.size + 1 + 1 := by omega
  have gbi3 : bi < w.heap.size + 1 + 1 + 1 := by omega
  have gbi4 : bi < w.heap.size + 1 + 1 + 1 + 1 := by omega
  have gbi5 : bi < w.heap.size + 1 + 1 + 1 + 1 + 1 := by omega
  have gbi6 : bi < w.heap.size + 1 + 1 + 1 + 1 + 1 + 1 := by omega
  have gbi7 : bi < w.heap.size + 1 + 1 + 1 + 1 + 1 + 1 + 1 := by omega
  have gbi8 : bi < w.heap.size + 1 + 1 + 1 + 1 + 1 + 1 + 1 + 1 := by omega
  have gbr1 : br < w.heap.size + 1 := by omega
  have gbr2 : br < w.heap.size + 1 + 1 := by omega
  have gbr3 : br < w.heap.size + 1 + 1 + 1 := by omega
  have gbr4 : br < w.heap.size + 1 + 1 + 1 + 1 := by omega
  have gbr5 : br < w.heap.size + 1 + 1 + 1 + 1 + 1 := by omega
  have gbr6 : br < w.heap.size + 1 + 1 + 1 + 1 + 1 + 1 := by omega
  have gbr7 : br < w.heap.size + 1 + 1 + 1 + 1 + 1 + 1 + 1 := by omega
  have gbr8 : br < w.heap.size + 1 + 1 + 1 + 1 + 1 + 1 + 1 + 1 := by omega
  have z98 := fun w => eqp 9997 za w
  have z97 := fun w => eqp 9996 za w
  go_enter Ybad.func9, Ybad.ntmps9
  go_wp2
  go_region_held3 (fun w' => w'.cell? ⟨bi, 0, none⟩ = some (.int .u64 0) ∧ w'.cell? ⟨bi, 1, none⟩ = some (.int .u64 (281470849515520 + i)) ∧ w'.cell? ⟨bi, 2, none⟩ = some (.pointer (some za)) ∧ w'.cell? ⟨bi, 3, none⟩ = some (.int .u16 pi) ∧ w'.cell? ⟨br, 0, none⟩ = some (.int .u64 0) ∧ w'.cell? ⟨br, 1, none⟩ = some (.int .u64 (281470849515520 + i)) ∧ w'.cell? ⟨br, 2, none⟩ = some (.pointer (some za)) ∧ w'.cell? ⟨br, 3, none⟩ = some (.int .u16 pr))
    (refine ⟨?_, ?_, ?_, ?_, ?_, ?_, ?_, ?_⟩ <;> go_simp)
    (first | (go_at_call 10; refine (addr_eq _ _ za _).mono ?_; rintro e w' ⟨rfl, rfl⟩))
  rename_i hHeld
  clear hHeld
  go_wp2
  go_ret
  exact ⟨rfl, (by repeat (first | exact Below.refl _ _ | refine Below.drew ?_ | refine below_drewN ?_ _ | refine Below.alloc ?_ (by first | omega | (simp; done) | (simp; omega)) _))⟩

set_option maxHeartbeats 4000000 in
theorem same_one_yes (bi br : Nat) (i x pi pr px : Int) (za : Addr) (w : World) (hbi : bi < w.heap.size) (hbr : br < w.heap.size)
    (ci0 : w.cell? ⟨bi, 0, none⟩ = some (.int .u64 0)) (ci1 : w.cell? ⟨bi, 1, none⟩ = some (.int .u64 (281470849515520 + i))) (ci2 : w.cell? ⟨bi, 2, none⟩ = some (.pointer (some za))) (ci3 : w.cell? ⟨bi, 3, none⟩ = some (.int .u16 pi))
    (cr0 : w.cell? ⟨br, 0, none⟩ = some (.int .u64 0)) (cr1 : w.cell? ⟨br, 1, none⟩ = some (.int .u64 (281470849515520 + i))) (cr2 : w.cell? ⟨br, 2, none⟩ = some (.pointer (some za))) (cr3 : w.cell? ⟨br, 3, none⟩ = some (.int .u16 pr)) :
    Calls Ybad.prog 9 #[.agg #[.int .u64 0, .int .u64 (281470849515520 + x), .pointer (some za), .int .u16 px], .agg #[.int .u64 0, .int .u64 (281470849515520 + x), .pointer (some za), .int .u16 px], .pointer (some ⟨bi, 0, none⟩), .pointer (some ⟨br, 0, none⟩)] w fun e w' => e = .returned (.bool true) ∧ Below w.heap.size w w' := by
  have gbi1 : bi < w.heap.size + 1 := by omega
  have gbi2 : bi < w.heap.size + 1 + 1 := by omega
  have gbi3 : bi < w.heap.size + 1 + 1 + 1 := by omega
  have gbi4 : bi < w.heap.size + 1 + 1 + 1 + 1 := by omega
  have gbi5 : bi < w.heap.size + 1 + 1 + 1 + 1 + 1 := by omega
  have gbi6 : bi < w.heap.size + 1 + 1 + 1 + 1 + 1 + 1 := by omega
  have gbi7 : bi < w.heap.size + 1 + 1 + 1 + 1 + 1 + 1 + 1 := by omega
  have gbi8 : bi < w.heap.size + 1 + 1 + 1 + 1 + 1 + 1 + 1 + 1 := by omega
  have gbr1 : br < w.heap.size + 1 := by omega
  have gbr2 : br < w.heap.size + 1 + 1 := by omega
  have gbr3 : br < w.heap.size + 1 + 1 + 1 := by omega
  have gbr4 : br < w.heap.size + 1 + 1 + 1 + 1 := by omega
  have gbr5 : br < w.heap.size + 1 + 1 + 1 + 1 + 1 := by omega
  have gbr6 : br < w.heap.size + 1 + 1 + 1 + 1 + 1 + 1 := by omega
  have gbr7 : br < w.heap.size + 1 + 1 + 1 + 1 + 1 + 1 + 1 := by omega
  have gbr8 : br < w.heap.size + 1 + 1 + 1 + 1 + 1 + 1 + 1 + 1 := by omega
  have z98 := fun w => eqp 9997 za w
  have z97 := fun w => eqp 9996 za w
  go_enter Ybad.func9, Ybad.ntmps9
  go_wp2
  go_region_held3 (fun w' => w'.cell? ⟨bi, 0, none⟩ = some (.int .u64 0) ∧ w'.cell? ⟨bi, 1, none⟩ = some (.int .u64 (281470849515520 + i)) ∧ w'.cell? ⟨bi, 2, none⟩ = some (.pointer (some za)) ∧ w'.cell? ⟨bi, 3, none⟩ = some (.int .u16 pi) ∧ w'.cell? ⟨br, 0, none⟩ = some (.int .u64 0) ∧ w'.cell? ⟨br, 1, none⟩ = some (.int .u64 (281470849515520 + i)) ∧ w'.cell? ⟨br, 2, none⟩ = some (.pointer (some za)) ∧ w'.cell? ⟨br, 3, none⟩ = some (.int .u16 pr))
    (refine ⟨?_, ?_, ?_, ?_, ?_, ?_, ?_, ?_⟩ <;> go_simp)
    (first | (go_at_call 10; refine (addr_eq _ _ za _).mono ?_; rintro e w' ⟨rfl, rfl⟩))
  rename_i hHeld
  clear hHeld
  go_wp2
  go_ret
  exact ⟨rfl, (by repeat (first | exact Below.refl _ _ | refine Below.drew ?_ | refine below_drewN ?_ _ | refine Below.alloc ?_ (by first | omega | (simp; done) | (simp; omega)) _))⟩

end Go.Proofs.YbulkammyDoor
