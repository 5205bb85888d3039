import Derived.Test.YbulkammyDoorSend
namespace Go.Proofs.YbulkammyDoor
open Go.RowKit
set_option linter.unusedVariables false
set_option linter.unusedSimpArgs false

/-- are two endpoints the same, by the rule of the exchange between addresses i and r -/
def smB (i r x px y py : Int) : Bool := if i = r then (x == y && px == py) else x == y

theorem same_all (bi br : Nat) (i r pi pr x px y py : Int) (za : Addr) (w : World) (hbi : bi < w.heap.size) (hbr : br < w.heap.size)
    (ci0 : w.cell? ⟨bi, 0, none⟩ = some (.int .u64 0)) (ci1 : w.cell? ⟨bi, 1, none⟩ = some (.int .u64 (281470849515520 + i))) (ci2 : w.cell? ⟨bi, 2, none⟩ = some (.pointer (some za))) (ci3 : w.cell? ⟨bi, 3, none⟩ = some (.int .u16 pi))
    (cr0 : w.cell? ⟨br, 0, none⟩ = some (.int .u64 0)) (cr1 : w.cell? ⟨br, 1, none⟩ = some (.int .u64 (281470849515520 + r))) (cr2 : w.cell? ⟨br, 2, none⟩ = some (.pointer (some za))) (cr3 : w.cell? ⟨br, 3, none⟩ = some (.int .u16 pr)) :
    Calls Ybad.prog 9 #[.agg #[.int .u64 0, .int .u64 (281470849515520 + x), .pointer (some za), .int .u16 px], .agg #[.int .u64 0, .int .u64 (281470849515520 + y), .pointer (some za), .int .u16 py], .pointer (some ⟨bi, 0, none⟩), .pointer (some ⟨br, 0, none⟩)] w fun e w' => e = .returned (.bool (smB i r x px y py)) ∧ Below w.heap.size w w' := by
  by_cases h1 : i = r
  · subst h1
    by_cases h2 : x = y
    · subst h2
      by_cases h3 : px = py
      · subst h3
        have e : smB i i x px x px = true := by simp [smB]
        rw [e]; exact same_one_yes bi br i x pi pr px za w hbi hbr ci0 ci1 ci2 ci3 cr0 cr1 cr2 cr3
      · have e : smB i i x px x py = false := by simp [smB, h3]
        rw [e]; exact same_one_port bi br i x pi pr px py za w (by simpa using h3) hbi hbr ci0 ci1 ci2 ci3 cr0 cr1 cr2 cr3
    · have e : smB i i x px y py = false := by simp [smB, h2]
      rw [e]; exact same_one_no bi br i x y pi pr px py za w (by simp; omega) hbi hbr ci0 ci1 ci2 ci3 cr0 cr1 cr2 cr3
  · by_cases h2 : x = y
    · subst h2
      have e : smB i r x px x py = true := by simp [smB, h1]
      rw [e]; exact same_apart_yes bi br i r x pi pr px py za w (by simp; omega) hbi hbr ci0 ci1 ci2 ci3 cr0 cr1 cr2 cr3
    · have e : smB i r x px y py = false := by simp [smB, h1, h2]
      rw [e]; exact same_apart_no bi br i r x y pi pr px py za w (by simp; omega) (by simp; omega) hbi hbr ci0 ci1 ci2 ci3 cr0 cr1 cr2 cr3

/-- what sender answers -/
def sdB (i pi r pr s ps d pd : Int) : Int :=
  if smB i r s ps i pi = true ∧ smB i r d pd r pr = true then 0 else if smB i r s ps r pr = true ∧ smB i r d pd i pi = true then 1 else -1

set_option maxHeartbeats 4000000 in
theorem sender_i (b : Nat) (i pi r pr s ps d pd : Int) (za : Addr) (w : World) (hb : b < w.heap.size) (h0 : smB i r s ps i pi = true) (h1 : smB i r d pd r pr = true)
    (ci0 : w.cell? ⟨b, 16, none⟩ = some (.int .u64 0)) (ci1 : w.cell? ⟨b, 17, none⟩ = some (.int .u64 (281470849515520 + i))) (ci2 : w.cell? ⟨b, 18, none⟩ = some (.pointer (some za))) (ci3 : w.cell? ⟨b, 19, none⟩ = some (.int .u16 pi))
    (cr0 : w.cell? ⟨b, 24, none⟩ = some (.int .u64 0)) (cr1 : w.cell? ⟨b, 25, none⟩ = some (.int .u64 (281470849515520 + r))) (cr2 : w.cell? ⟨b, 26, none⟩ = some (.pointer (some za))) (cr3 : w.cell? ⟨b, 27, none⟩ = some (.int .u16 pr)) :
    Calls Ybad.prog 6 #[.pointer (some ⟨b, 0, none⟩), .agg #[.int .u64 0, .int .u64 (281470849515520 + s), .pointer (some za), .int .u16 ps], .agg #[.int .u64 0, .int .u64 (281470849515520 + d), .pointer (some za), .int .u16 pd]] w fun e w' => e = .returned (.int .i64 (sdB i pi r pr s ps d pd)) ∧ Below w.heap.size w w' := by
  have hmf : ∀ (fn : Fn) (first cap : Array Value) (w : World), (Instr.makeFunc fn first cap).run Ybad.prog w = .ok (.func fn first cap) w := fun _ _ _ _ => rfl
  have HR : Hid (sdB i pi r pr s ps d pd = 0) := by show _ = _; simp [sdB, h0, h1]
  have gb1 : b < w.heap.size + 1 := by omega
  have gb2 : b < w.heap.size + 1 + 1 := by omega
  have gb3 : b < w.heap.size + 1 + 1 + 1 := by omega
  have gb4 : b < w.heap.size + 1 + 1 + 1 + 1 := by omega
  have gb5 : b < w.heap.size + 1 + 1 + 1 + 1 + 1 := by omega
  have gb6 : b < w.heap.size + 1 + 1 + 1 + 1 + 1 + 1 := by omega
  go_enter Ybad.func6, Ybad.ntmps6
  go_wp2
  go_region_held3 (fun w' => w'.cell? ⟨b, 16, none⟩ = some (.int .u64 0) ∧ w'.cell? ⟨b, 17, none⟩ = some (.int .u64 (281470849515520 + i)) ∧ w'.cell? ⟨b, 18, none⟩ = some (.pointer (some za)) ∧ w'.cell? ⟨b, 19, none⟩ = some (.int .u16 pi) ∧ w'.cell? ⟨b, 24, none⟩ = some (.int .u64 0) ∧ w'.cell? ⟨b, 25, none⟩ = some (.int .u64 (281470849515520 + r)) ∧ w'.cell? ⟨b, 26, none⟩ = some (.pointer (some za)) ∧ w'.cell? ⟨b, 27, none⟩ = some (.int .u16 pr))
    (refine ⟨?_, ?_, ?_, ?_, ?_, ?_, ?_, ?_⟩ <;> go_simp)
    (fail)
  ·
      rename_i hHeld
      clear hHeld
      generalize hW : World.drew _ = W0
      have zi0 : w.heap.size + 1 + 1 < W0.heap.size := by rw [← hW]; simp [World.drew]
      have zr0 : w.heap.size + 1 + 1 + 1 < W0.heap.size := by rw [← hW]; simp [World.drew]
      have B0 : Below w.heap.size w W0 := by rw [← hW]; exact (by repeat (first | exact Below.refl _ _ | refine Below.drew ?_ | refine Below.alloc ?_ (by first | omega | (simp; done) | (simp; omega)) _))
      have s00 : W0.cell? ⟨w.heap.size, 0, none⟩ = some (.int .u64 0) := by rw [← hW]; clear hW; go_simp
      have s01 : W0.cell? ⟨w.heap.size, 1, none⟩ = some (.int .u64 (281470849515520 + s)) := by rw [← hW]; clear hW; go_simp
      have s02 : W0.cell? ⟨w.heap.size, 2, none⟩ = some (.pointer (some za)) := by rw [← hW]; clear hW; go_simp
      have s03 : W0.cell? ⟨w.heap.size, 3, none⟩ = some (.int .u16 ps) := by rw [← hW]; clear hW; go_simp
      have d00 : W0.cell? ⟨w.heap.size + 1, 0, none⟩ = some (.int .u64 0) := by rw [← hW]; clear hW; go_simp
      have d01 : W0.cell? ⟨w.heap.size + 1, 1, none⟩ = some (.int .u64 (281470849515520 + d)) := by rw [← hW]; clear hW; go_simp
      have d02 : W0.cell? ⟨w.heap.size + 1, 2, none⟩ = some (.pointer (some za)) := by rw [← hW]; clear hW; go_simp
      have d03 : W0.cell? ⟨w.heap.size + 1, 3, none⟩ = some (.int .u16 pd) := by rw [← hW]; clear hW; go_simp
      have i00 : W0.cell? ⟨w.heap.size + 1 + 1, 0, none⟩ = some (.int .u64 0) := by rw [← hW]; clear hW; go_simp
      have i01 : W0.cell? ⟨w.heap.size + 1 + 1, 1, none⟩ = some (.int .u64 (281470849515520 + i)) := by rw [← hW]; clear hW; go_simp
      have i02 : W0.cell? ⟨w.heap.size + 1 + 1, 2, none⟩ = some (.pointer (some za)) := by rw [← hW]; clear hW; go_simp
      have i03 : W0.cell? ⟨w.heap.size + 1 + 1, 3, none⟩ = some (.int .u16 pi) := by rw [← hW]; clear hW; go_simp
      have r00 : W0.cell? ⟨w.heap.size + 1 + 1 + 1, 0, none⟩ = some (.int .u64 0) := by rw [← hW]; clear hW; go_simp
      have r01 : W0.cell? ⟨w.heap.size + 1 + 1 + 1, 1, none⟩ = some (.int .u64 (281470849515520 + r)) := by rw [← hW]; clear hW; go_simp
      have r02 : W0.cell? ⟨w.heap.size + 1 + 1 + 1, 2, none⟩ = some (.pointer (some za)) := by rw [← hW]; clear hW; go_simp
      have r03 : W0.cell? ⟨w.heap.size + 1 + 1 + 1, 3, none⟩ = some (.int .u16 pr) := by rw [← hW]; clear hW; go_simp
      clear hW
      go_wp2_with fail
      refine (same_all (w.heap.size + 1 + 1) (w.heap.size + 1 + 1 + 1) i r pi pr s ps i pi za _ zi0 zr0 i00 i01 i02 i03 r00 r01 r02 r03).mono ?_
      rintro e w1 ⟨rfl, hb1⟩
      have s10 := cell_later hb1 s00
      have s11 := cell_later hb1 s01
      have s12 := cell_later hb1 s02
      have s13 := cell_later hb1 s03
      have d10 := cell_later hb1 d00
      have d11 := cell_later hb1 d01
      have d12 := cell_later hb1 d02
      have d13 := cell_later hb1 d03
      have i10 := cell_later hb1 i00
      have i11 := cell_later hb1 i01
      have i12 := cell_later hb1 i02
      have i13 := cell_later hb1 i03
      have r10 := cell_later hb1 r00
      have r11 := cell_later hb1 r01
      have r12 := cell_later hb1 r02
      have r13 := cell_later hb1 r03
      have zi1 : w.heap.size + 1 + 1 < w1.heap.size := Nat.lt_of_lt_of_le zi0 hb1.size
      have zr1 : w.heap.size + 1 + 1 + 1 < w1.heap.size := Nat.lt_of_lt_of_le zr0 hb1.size
      clear s00 s01 s02 s03 d00 d01 d02 d03 i00 i01 i02 i03 r00 r01 r02 r03
      have B1 : Below w.heap.size w w1 := B0.trans (hb1.mono B0.size)
      go_wp2_with fail
      refine (same_all (w.heap.size + 1 + 1) (w.heap.size + 1 + 1 + 1) i r pi pr d pd r pr za _ zi1 zr1 i10 i11 i12 i13 r10 r11 r12 r13).mono ?_
      rintro e w2 ⟨rfl, hb2⟩
      have s20 := cell_later hb2 s10
      have s21 := cell_later hb2 s11
      have s22 := cell_later hb2 s12
      have s23 := cell_later hb2 s13
      have d20 := cell_later hb2 d10
      have d21 := cell_later hb2 d11
      have d22 := cell_later hb2 d12
      have d23 := cell_later hb2 d13
      have i20 := cell_later hb2 i10
      have i21 := cell_later hb2 i11
      have i22 := cell_later hb2 i12
      have i23 := cell_later hb2 i13
      have r20 := cell_later hb2 r10
      have r21 := cell_later hb2 r11
      have r22 := cell_later hb2 r12
      have r23 := cell_later hb2 r13
      have zi2 : w.heap.size + 1 + 1 < w2.heap.size := Nat.lt_of_lt_of_le zi1 hb2.size
      have zr2 : w.heap.size + 1 + 1 + 1 < w2.heap.size := Nat.lt_of_lt_of_le zr1 hb2.size
      clear s10 s11 s12 s13 d10 d11 d12 d13 i10 i11 i12 i13 r10 r11 r12 r13
      have B2 : Below w.heap.size w w2 := B1.trans (hb2.mono B1.size)
      go_wp2
      go_ret
      exact ⟨by rw [HR.out]; rfl, B2⟩
  ·
      rename_i hHeld
      clear hHeld
      generalize hW : World.drew _ = W0
      have zi0 : w.heap.size + 1 + 1 + 1 < W0.heap.size := by rw [← hW]; simp [World.drew]
      have zr0 : w.heap.size + 1 + 1 < W0.heap.size := by rw [← hW]; simp [World.drew]
      have B0 : Below w.heap.size w W0 := by rw [← hW]; exact (by repeat (first | exact Below.refl _ _ | refine Below.drew ?_ | refine Below.alloc ?_ (by first | omega | (simp; done) | (simp; omega)) _))
      have s00 : W0.cell? ⟨w.heap.size, 0, none⟩ = some (.int .u64 0) := by rw [← hW]; clear hW; go_simp
      have s01 : W0.cell? ⟨w.heap.size, 1, none⟩ = some (.int .u64 (281470849515520 + s)) := by rw [← hW]; clear hW; go_simp
      have s02 : W0.cell? ⟨w.heap.size, 2, none⟩ = some (.pointer (some za)) := by rw [← hW]; clear hW; go_simp
      have s03 : W0.cell? ⟨w.heap.size, 3, none⟩ = some (.int .u16 ps) := by rw [← hW]; clear hW; go_simp
      have d00 : W0.cell? ⟨w.heap.size + 1, 0, none⟩ = some (.int .u64 0) := by rw [← hW]; clear hW; go_simp
      have d01 : W0.cell? ⟨w.heap.size + 1, 1, none⟩ = some (.int .u64 (281470849515520 + d)) := by rw [← hW]; clear hW; go_simp
      have d02 : W0.cell? ⟨w.heap.size + 1, 2, none⟩ = some (.pointer (some za)) := by rw [← hW]; clear hW; go_simp
      have d03 : W0.cell? ⟨w.heap.size + 1, 3, none⟩ = some (.int .u16 pd) := by rw [← hW]; clear hW; go_simp
      have i00 : W0.cell? ⟨w.heap.size + 1 + 1 + 1, 0, none⟩ = some (.int .u64 0) := by rw [← hW]; clear hW; go_simp
      have i01 : W0.cell? ⟨w.heap.size + 1 + 1 + 1, 1, none⟩ = some (.int .u64 (281470849515520 + i)) := by rw [← hW]; clear hW; go_simp
      have i02 : W0.cell? ⟨w.heap.size + 1 + 1 + 1, 2, none⟩ = some (.pointer (some za)) := by rw [← hW]; clear hW; go_simp
      have i03 : W0.cell? ⟨w.heap.size + 1 + 1 + 1, 3, none⟩ = some (.int .u16 pi) := by rw [← hW]; clear hW; go_simp
      have r00 : W0.cell? ⟨w.heap.size + 1 + 1, 0, none⟩ = some (.int .u64 0) := by rw [← hW]; clear hW; go_simp
      have r01 : W0.cell? ⟨w.heap.size + 1 + 1, 1, none⟩ = some (.int .u64 (281470849515520 + r)) := by rw [← hW]; clear hW; go_simp
      have r02 : W0.cell? ⟨w.heap.size + 1 + 1, 2, none⟩ = some (.pointer (some za)) := by rw [← hW]; clear hW; go_simp
      have r03 : W0.cell? ⟨w.heap.size + 1 + 1, 3, none⟩ = some (.int .u16 pr) := by rw [← hW]; clear hW; go_simp
      clear hW
      go_wp2_with fail
      refine (same_all (w.heap.size + 1 + 1 + 1) (w.heap.size + 1 + 1) i r pi pr s ps i pi za _ zi0 zr0 i00 i01 i02 i03 r00 r01 r02 r03).mono ?_
      rintro e w1 ⟨rfl, hb1⟩
      have s10 := cell_later hb1 s00
      have s11 := cell_later hb1 s01
      have s12 := cell_later hb1 s02
      have s13 := cell_later hb1 s03
      have d10 := cell_later hb1 d00
      have d11 := cell_later hb1 d01
      have d12 := cell_later hb1 d02
      have d13 := cell_later hb1 d03
      have i10 := cell_later hb1 i00
      have i11 := cell_later hb1 i01
      have i12 := cell_later hb1 i02
      have i13 := cell_later hb1 i03
      have r10 := cell_later hb1 r00
      have r11 := cell_later hb1 r01
      have r12 := cell_later hb1 r02
      have r13 := cell_later hb1 r03
      have zi1 : w.heap.size + 1 + 1 + 1 < w1.heap.size := Nat.lt_of_lt_of_le zi0 hb1.size
      have zr1 : w.heap.size + 1 + 1 < w1.heap.size := Nat.lt_of_lt_of_le zr0 hb1.size
      clear s00 s01 s02 s03 d00 d01 d02 d03 i00 i01 i02 i03 r00 r01 r02 r03
      have B1 : Below w.heap.size w w1 := B0.trans (hb1.mono B0.size)
      go_wp2_with fail
      refine (same_all (w.heap.size + 1 + 1 + 1) (w.heap.size + 1 + 1) i r pi pr d pd r pr za _ zi1 zr1 i10 i11 i12 i13 r10 r11 r12 r13).mono ?_
      rintro e w2 ⟨rfl, hb2⟩
      have s20 := cell_later hb2 s10
      have s21 := cell_later hb2 s11
      have s22 := cell_later hb2 s12
      have s23 := cell_later hb2 s13
      have d20 := cell_later hb2 d10
      have d21 := cell_later hb2 d11
      have d22 := cell_later hb2 d12
      have d23 := cell_later hb2 d13
      have i20 := cell_later hb2 i10
      have i21 := cell_later hb2 i11
      have i22 := cell_later hb2 i12
      have i23 := cell_later hb2 i13
      have r20 := cell_later hb2 r10
      have r21 := cell_later hb2 r11
      have r22 := cell_later hb2 r12
      have r23 := cell_later hb2 r13
      have zi2 : w.heap.size + 1 + 1 + 1 < w2.heap.size := Nat.lt_of_lt_of_le zi1 hb2.size
      have zr2 : w.heap.size + 1 + 1 < w2.heap.size := Nat.lt_of_lt_of_le zr1 hb2.size
      clear s10 s11 s12 s13 d10 d11 d12 d13 i10 i11 i12 i13 r10 r11 r12 r13
      have B2 : Below w.heap.size w w2 := B1.trans (hb2.mono B1.size)
      go_wp2
      go_ret
      exact ⟨by rw [HR.out]; rfl, B2⟩

set_option maxHeartbeats 4000000 in
theorem sender_tf1 (b : Nat) (i pi r pr s ps d pd : Int) (za : Addr) (w : World) (hb : b < w.heap.size) (h0 : smB i r s ps i pi = true) (h1 : smB i r d pd r pr = false) (h2 : smB i r s ps r pr = true) (h3 : smB i r d pd i pi = true)
    (ci0 : w.cell? ⟨b, 16, none⟩ = some (.int .u64 0)) (ci1 : w.cell? ⟨b, 17, none⟩ = some (.int .u64 (281470849515520 + i))) (ci2 : w.cell? ⟨b, 18, none⟩ = some (.pointer (some za))) (ci3 : w.cell? ⟨b, 19, none⟩ = some (.int .u16 pi))
    (cr0 : w.cell? ⟨b, 24, none⟩ = some (.int .u64 0)) (cr1 : w.cell? ⟨b, 25, none⟩ = some (.int .u64 (281470849515520 + r))) (cr2 : w.cell? ⟨b, 26, none⟩ = some (.pointer (some za))) (cr3 : w.cell? ⟨b, 27, none⟩ = some (.int .u16 pr)) :
    Calls Ybad.prog 6 #[.pointer (some ⟨b, 0, none⟩), .agg #[.int .u64 0, .int .u64 (281470849515520 + s), .pointer (some za), .int .u16 ps], .agg #[.int .u64 0, .int .u64 (281470849515520 + d), .pointer (some za), .int .u16 pd]] w fun e w' => e = .returned (.int .i64 (sdB i pi r pr s ps d pd)) ∧ Below w.heap.size w w' := by
  have hmf : ∀ (fn : Fn) (first cap : Array Value) (w : World), (Instr.makeFunc fn first cap).run Ybad.prog w = .ok (.func fn first cap) w := fun _ _ _ _ => rfl
  have HR : Hid (sdB i pi r pr s ps d pd = 1) := by show _ = _; simp [sdB, h0, h1, h2, h3]
  have gb1 : b < w.heap.size + 1 := by omega
  have gb2 : b < w.heap.size + 1 + 1 := by omega
  have gb3 : b < w.heap.size + 1 + 1 + 1 := by omega
  have gb4 : b < w.heap.size + 1 + 1 + 1 + 1 := by omega
  have gb5 : b < w.heap.size + 1 + 1 + 1 + 1 + 1 := by omega
  have gb6 : b < w.heap.size + 1 + 1 + 1 + 1 + 1 + 1 := by omega
  go_enter Ybad.func6, Ybad.ntmps6
  go_wp2
  go_region_held3 (fun w' => w'.cell? ⟨b, 16, none⟩ = some (.int .u64 0) ∧ w'.cell? ⟨b, 17, none⟩ = some (.int .u64 (281470849515520 + i)) ∧ w'.cell? ⟨b, 18, none⟩ = some (.pointer (some za)) ∧ w'.cell? ⟨b, 19, none⟩ = some (.int .u16 pi) ∧ w'.cell? ⟨b, 24, none⟩ = some (.int .u64 0) ∧ w'.cell? ⟨b, 25, none⟩ = some (.int .u64 (281470849515520 + r)) ∧ w'.cell? ⟨b, 26, none⟩ = some (.pointer (some za)) ∧ w'.cell? ⟨b, 27, none⟩ = some (.int .u16 pr))
    (refine ⟨?_, ?_, ?_, ?_, ?_, ?_, ?_, ?_⟩ <;> go_simp)
    (fail)
  ·
      rename_i hHeld
      clear hHeld
      generalize hW : World.drew _ = W0
      have zi0 : w.heap.size + 1 + 1 < W0.heap.size := by rw [← hW]; simp [World.drew]
      have zr0 : w.heap.size + 1 + 1 + 1 < W0.heap.size := by rw [← hW]; simp [World.drew]
      have B0 : Below w.heap.size w W0 := by rw [← hW]; exact (by repeat (first | exact Below.refl _ _ | refine Below.drew ?_ | refine Below.alloc ?_ (by first | omega | (simp; done) | (simp; omega)) _))
      have s00 : W0.cell? ⟨w.heap.size, 0, none⟩ = some (.int .u64 0) := by rw [← hW]; clear hW; go_simp
      have s01 : W0.cell? ⟨w.heap.size, 1, none⟩ = some (.int .u64 (281470849515520 + s)) := by rw [← hW]; clear hW; go_simp
      have s02 : W0.cell? ⟨w.heap.size, 2, none⟩ = some (.pointer (some za)) := by rw [← hW]; clear hW; go_simp
      have s03 : W0.cell? ⟨w.heap.size, 3, none⟩ = some (.int .u16 ps) := by rw [← hW]; clear hW; go_simp
      have d00 : W0.cell? ⟨w.heap.size + 1, 0, none⟩ = some (.int .u64 0) := by rw [← hW]; clear hW; go_simp
      have d01 : W0.cell? ⟨w.heap.size + 1, 1, none⟩ = some (.int .u64 (281470849515520 + d)) := by rw [← hW]; clear hW; go_simp
      have d02 : W0.cell? ⟨w.heap.size + 1, 2, none⟩ = some (.pointer (some za)) := by rw [← hW]; clear hW; go_simp
      have d03 : W0.cell? ⟨w.heap.size + 1, 3, none⟩ = some (.int .u16 pd) := by rw [← hW]; clear hW; go_simp
      have i00 : W0.cell? ⟨w.heap.size + 1 + 1, 0, none⟩ = some (.int .u64 0) := by rw [← hW]; clear hW; go_simp
      have i01 : W0.cell? ⟨w.heap.size + 1 + 1, 1, none⟩ = some (.int .u64 (281470849515520 + i)) := by rw [← hW]; clear hW; go_simp
      have i02 : W0.cell? ⟨w.heap.size + 1 + 1, 2, none⟩ = some (.pointer (some za)) := by rw [← hW]; clear hW; go_simp
      have i03 : W0.cell? ⟨w.heap.size + 1 + 1, 3, none⟩ = some (.int .u16 pi) := by rw [← hW]; clear hW; go_simp
      have r00 : W0.cell? ⟨w.heap.size + 1 + 1 + 1, 0, none⟩ = some (.int .u64 0) := by rw [← hW]; clear hW; go_simp
      have r01 : W0.cell? ⟨w.heap.size + 1 + 1 + 1, 1, none⟩ = some (.int .u64 (281470849515520 + r)) := by rw [← hW]; clear hW; go_simp
      have r02 : W0.cell? ⟨w.heap.size + 1 + 1 + 1, 2, none⟩ = some (.pointer (some za)) := by rw [← hW]; clear hW; go_simp
      have r03 : W0.cell? ⟨w.heap.size + 1 + 1 + 1, 3, none⟩ = some (.int .u16 pr) := by rw [← hW]; clear hW; go_simp
      clear hW
      go_wp2_with fail
      refine (same_all (w.heap.size + 1 + 1) (w.heap.size + 1 + 1 + 1) i r pi pr s ps i pi za _ zi0 zr0 i00 i01 i02 i03 r00 r01 r02 r03).mono ?_
      rintro e w1 ⟨rfl, hb1⟩
      have s10 := cell_later hb1 s00
      have s11 := cell_later hb1 s01
      have s12 := cell_later hb1 s02
      have s13 := cell_later hb1 s03
      have d10 := cell_later hb1 d00
      have d11 := cell_later hb1 d01
      have d12 := cell_later hb1 d02
      have d13 := cell_later hb1 d03
      have i10 := cell_later hb1 i00
      have i11 := cell_later hb1 i01
      have i12 := cell_later hb1 i02
      have i13 := cell_later hb1 i03
      have r10 := cell_later hb1 r00
      have r11 := cell_later hb1 r01
      have r12 := cell_later hb1 r02
      have r13 := cell_later hb1 r03
      have zi1 : w.heap.size + 1 + 1 < w1.heap.size := Nat.lt_of_lt_of_le zi0 hb1.size
      have zr1 : w.heap.size + 1 + 1 + 1 < w1.heap.size := Nat.lt_of_lt_of_le zr0 hb1.size
      clear s00 s01 s02 s03 d00 d01 d02 d03 i00 i01 i02 i03 r00 r01 r02 r03
      have B1 : Below w.heap.size w w1 := B0.trans (hb1.mono B0.size)
      go_wp2_with fail
      refine (same_all (w.heap.size + 1 + 1) (w.heap.size + 1 + 1 + 1) i r pi pr d pd r pr za _ zi1 zr1 i10 i11 i12 i13 r10 r11 r12 r13).mono ?_
      rintro e w2 ⟨rfl, hb2⟩
      have s20 := cell_later hb2 s10
      have s21 := cell_later hb2 s11
      have s22 := cell_later hb2 s12
      have s23 := cell_later hb2 s13
      have d20 := cell_later hb2 d10
      have d21 := cell_later hb2 d11
      have d22 := cell_later hb2 d12
      have d23 := cell_later hb2 d13
      have i20 := cell_later hb2 i10
      have i21 := cell_later hb2 i11
      have i22 := cell_later hb2 i12
      have i23 := cell_later hb2 i13
      have r20 := cell_later hb2 r10
      have r21 := cell_later hb2 r11
      have r22 := cell_later hb2 r12
      have r23 := cell_later hb2 r13
      have zi2 : w.heap.size + 1 + 1 < w2.heap.size := Nat.lt_of_lt_of_le zi1 hb2.size
      have zr2 : w.heap.size + 1 + 1 + 1 < w2.heap.size := Nat.lt_of_lt_of_le zr1 hb2.size
      clear s10 s11 s12 s13 d10 d11 d12 d13 i10 i11 i12 i13 r10 r11 r12 r13
      have B2 : Below w.heap.size w w2 := B1.trans (hb2.mono B1.size)
      go_wp2_with fail
      refine (same_all (w.heap.size + 1 + 1) (w.heap.size + 1 + 1 + 1) i r pi pr s ps r pr za _ zi2 zr2 i20 i21 i22 i23 r20 r21 r22 r23).mono ?_
      rintro e w3 ⟨rfl, hb3⟩
      have s30 := cell_later hb3 s20
      have s31 := cell_later hb3 s21
      have s32 := cell_later hb3 s22
      have s33 := cell_later hb3 s23
      have d30 := cell_later hb3 d20
      have d31 := cell_later hb3 d21
      have d32 := cell_later hb3 d22
      have d33 := cell_later hb3 d23
      have i30 := cell_later hb3 i20
      have i31 := cell_later hb3 i21
      have i32 := cell_later hb3 i22
      have i33 := cell_later hb3 i23
      have r30 := cell_later hb3 r20
      have r31 := cell_later hb3 r21
      have r32 := cell_later hb3 r22
      have r33 := cell_later hb3 r23
      have zi3 : w.heap.size + 1 + 1 < w3.heap.size := Nat.lt_of_lt_of_le zi2 hb3.size
      have zr3 : w.heap.size + 1 + 1 + 1 < w3.heap.size := Nat.lt_of_lt_of_le zr2 hb3.size
      clear s20 s21 s22 s23 d20 d21 d22 d23 i20 i21 i22 i23 r20 r21 r22 r23
      have B3 : Below w.heap.size w w3 := B2.trans (hb3.mono B2.size)
      go_wp2_with fail
      refine (same_all (w.heap.size + 1 + 1) (w.heap.size + 1 + 1 + 1) i r pi pr d pd i pi za _ zi3 zr3 i30 i31 i32 i33 r30 r31 r32 r33).mono ?_
      rintro e w4 ⟨rfl, hb4⟩
      have s40 := cell_later hb4 s30
      have s41 := cell_later hb4 s31
      have s42 := cell_later hb4 s32
      have s43 := cell_later hb4 s33
      have d40 := cell_later hb4 d30
      have d41 := cell_later hb4 d31
      have d42 := cell_later hb4 d32
      have d43 := cell_later hb4 d33
      have i40 := cell_later hb4 i30
      have i41 := cell_later hb4 i31
      have i42 := cell_later hb4 i32
      have i43 := cell_later hb4 i33
      have r40 := cell_later hb4 r30
      have r41 := cell_later hb4 r31
      have r42 := cell_later hb4 r32
      have r43 := cell_later hb4 r33
      have zi4 : w.heap.size + 1 + 1 < w4.heap.size := Nat.lt_of_lt_of_le zi3 hb4.size
      have zr4 : w.heap.size + 1 + 1 + 1 < w4.heap.size := Nat.lt_of_lt_of_le zr3 hb4.size
      clear s30 s31 s32 s33 d30 d31 d32 d33 i30 i31 i32 i33 r30 r31 r32 r33
      have B4 : Below w.heap.size w w4 := B3.trans (hb4.mono B3.size)
      go_wp2
      go_ret
      exact ⟨by rw [HR.out]; rfl, B4⟩
  ·
      rename_i hHeld
      clear hHeld
      generalize hW : World.drew _ = W0
      have zi0 : w.heap.size + 1 + 1 + 1 < W0.heap.size := by rw [← hW]; simp [World.drew]
      have zr0 : w.heap.size + 1 + 1 < W0.heap.size := by rw [← hW]; simp [World.drew]
      have B0 : Below w.heap.size w W0 := by rw [← hW]; exact (by repeat (first | exact Below.refl _ _ | refine Below.drew ?_ | refine Below.alloc ?_ (by first | omega | (simp; done) | (simp; omega)) _))
      have s00 : W0.cell? ⟨w.heap.size, 0, none⟩ = some (.int .u64 0) := by rw [← hW]; clear hW; go_simp
      have s01 : W0.cell? ⟨w.heap.size, 1, none⟩ = some (.int .u64 (281470849515520 + s)) := by rw [← hW]; clear hW; go_simp
      have s02 : W0.cell? ⟨w.heap.size, 2, none⟩ = some (.pointer (some za)) := by rw [← hW]; clear hW; go_simp
      have s03 : W0.cell? ⟨w.heap.size, 3, none⟩ = some (.int .u16 ps) := by rw [← hW]; clear hW; go_simp
      have d00 : W0.cell? ⟨w.heap.size + 1, 0, none⟩ = some (.int .u64 0) := by rw [← hW]; clear hW; go_simp
      have d01 : W0.cell? ⟨w.heap.size + 1, 1, none⟩ = some (.int .u64 (281470849515520 + d)) := by rw [← hW]; clear hW; go_simp
      have d02 : W0.cell? ⟨w.heap.size + 1, 2, none⟩ = some (.pointer (some za)) := by rw [← hW]; clear hW; go_simp
      have d03 : W0.cell? ⟨w.heap.size + 1, 3, none⟩ = some (.int .u16 pd) := by rw [← hW]; clear hW; go_simp
      have i00 : W0.cell? ⟨w.heap.size + 1 + 1 + 1, 0, none⟩ = some (.int .u64 0) := by rw [← hW]; clear hW; go_simp
      have i01 : W0.cell? ⟨w.heap.size + 1 + 1 + 1, 1, none⟩ = some (.int .u64 (281470849515520 + i)) := by rw [← hW]; clear hW; go_simp
      have i02 : W0.cell? ⟨w.heap.size + 1 + 1 + 1, 2, none⟩ = some (.pointer (some za)) := by rw [← hW]; clear hW; go_simp
      have i03 : W0.cell? ⟨w.heap.size + 1 + 1 + 1, 3, none⟩ = some (.int .u16 pi) := by rw [← hW]; clear hW; go_simp
      have r00 : W0.cell? ⟨w.heap.size + 1 + 1, 0, none⟩ = some (.int .u64 0) := by rw [← hW]; clear hW; go_simp
      have r01 : W0.cell? ⟨w.heap.size + 1 + 1, 1, none⟩ = some (.int .u64 (281470849515520 + r)) := by rw [← hW]; clear hW; go_simp
      have r02 : W0.cell? ⟨w.heap.size + 1 + 1, 2, none⟩ = some (.pointer (some za)) := by rw [← hW]; clear hW; go_simp
      have r03 : W0.cell? ⟨w.heap.size + 1 + 1, 3, none⟩ = some (.int .u16 pr) := by rw [← hW]; clear hW; go_simp
      clear hW
      go_wp2_with fail
      refine (same_all (w.heap.size + 1 + 1 + 1) (w.heap.size + 1 + 1) i r pi pr s ps i pi za _ zi0 zr0 i00 i01 i02 i03 r00 r01 r02 r03).mono ?_
      rintro e w1 ⟨rfl, hb1⟩
      have s10 := cell_later hb1 s00
      have s11 := cell_later hb1 s01
      have s12 := cell_later hb1 s02
      have s13 := cell_later hb1 s03
      have d10 := cell_later hb1 d00
      have d11 := cell_later hb1 d01
      have d12 := cell_later hb1 d02
      have d13 := cell_later hb1 d03
      have i10 := cell_later hb1 i00
      have i11 := cell_later hb1 i01
      have i12 := cell_later hb1 i02
      have i13 := cell_later hb1 i03
      have r10 := cell_later hb1 r00
      have r11 := cell_later hb1 r01
      have r12 := cell_later hb1 r02
      have r13 := cell_later hb1 r03
      have zi1 : w.heap.size + 1 + 1 + 1 < w1.heap.size := Nat.lt_of_lt_of_le zi0 hb1.size
      have zr1 : w.heap.size + 1 + 1 < w1.heap.size := Nat.lt_of_lt_of_le zr0 hb1.size
      clear s00 s01 s02 s03 d00 d01 d02 d03 i00 i01 i02 i03 r00 r01 r02 r03
      have B1 : Below w.heap.size w w1 := B0.trans (hb1.mono B0.size)
      go_wp2_with fail
      refine (same_all (w.heap.size + 1 + 1 + 1) (w.heap.size + 1 + 1) i r pi pr d pd r pr za _ zi1 zr1 i10 i11 i12 i13 r10 r11 r12 r13).mono ?_
      rintro e w2 ⟨rfl, hb2⟩
      have s20 := cell_later hb2 s10
      have s21 := cell_later hb2 s11
      have s22 := cell_later hb2 s12
      have s23 := cell_later hb2 s13
      have d20 := cell_later hb2 d10
      have d21 := cell_later hb2 d11
      have d22 := cell_later hb2 d12
      have d23 := cell_later hb2 d13
      have i20 := cell_later hb2 i10
      have i21 := cell_later hb2 i11
      have i22 := cell_later hb2 i12
      have i23 := cell_later hb2 i13
      have r20 := cell_later hb2 r10
      have r21 := cell_later hb2 r11
      have r22 := cell_later hb2 r12
      have r23 := cell_later hb2 r13
      have zi2 : w.heap.size + 1 + 1 + 1 < w2.heap.size := Nat.lt_of_lt_of_le zi1 hb2.size
      have zr2 : w.heap.size + 1 + 1 < w2.heap.size := Nat.lt_of_lt_of_le zr1 hb2.size
      clear s10 s11 s12 s13 d10 d11 d12 d13 i10 i11 i12 i13 r10 r11 r12 r13
      have B2 : Below w.heap.size w w2 := B1.trans (hb2.mono B1.size)
      go_wp2_with fail
      refine (same_all (w.heap.size + 1 + 1 + 1) (w.heap.size + 1 + 1) i r pi pr s ps r pr za _ zi2 zr2 i20 i21 i22 i23 r20 r21 r22 r23).mono ?_
      rintro e w3 ⟨rfl, hb3⟩
      have s30 := cell_later hb3 s20
      have s31 := cell_later hb3 s21
      have s32 := cell_later hb3 s22
      have s33 := cell_later hb3 s23
      have d30 := cell_later hb3 d20
      have d31 := cell_later hb3 d21
      have d32 := cell_later hb3 d22
      have d33 := cell_later hb3 d23
      have i30 := cell_later hb3 i20
      have i31 := cell_later hb3 i21
      have i32 := cell_later hb3 i22
      have i33 := cell_later hb3 i23
      have r30 := cell_later hb3 r20
      have r31 := cell_later hb3 r21
      have r32 := cell_later hb3 r22
      have r33 := cell_later hb3 r23
      have zi3 : w.heap.size + 1 + 1 + 1 < w3.heap.size := Nat.lt_of_lt_of_le zi2 hb3.size
      have zr3 : w.heap.size + 1 + 1 < w3.heap.size := Nat.lt_of_lt_of_le zr2 hb3.size
      clear s20 s21 s22 s23 d20 d21 d22 d23 i20 i21 i22 i23 r20 r21 r22 r23
      have B3 : Below w.heap.size w w3 := B2.trans (hb3.mono B2.size)
      go_wp2_with fail
      refine (same_all (w.heap.size + 1 + 1 + 1) (w.heap.size + 1 + 1) i r pi pr d pd i pi za _ zi3 zr3 i30 i31 i32 i33 r30 r31 r32 r33).mono ?_
      rintro e w4 ⟨rfl, hb4⟩
      have s40 := cell_later hb4 s30
      have s41 := cell_later hb4 s31
      have s42 := cell_later hb4 s32
      have s43 := cell_later hb4 s33
      have d40 := cell_later hb4 d30
      have d41 := cell_later hb4 d31
      have d42 := cell_later hb4 d32
      have d43 := cell_later hb4 d33
      have i40 := cell_later hb4 i30
      have i41 := cell_later hb4 i31
      have i42 := cell_later hb4 i32
      have i43 := cell_later hb4 i33
      have r40 := cell_later hb4 r30
      have r41 := cell_later hb4 r31
      have r42 := cell_later hb4 r32
      have r43 := cell_later hb4 r33
      have zi4 : w.heap.size + 1 + 1 + 1 < w4.heap.size := Nat.lt_of_lt_of_le zi3 hb4.size
      have zr4 : w.heap.size + 1 + 1 < w4.heap.size := Nat.lt_of_lt_of_le zr3 hb4.size
      clear s30 s31 s32 s33 d30 d31 d32 d33 i30 i31 i32 i33 r30 r31 r32 r33
      have B4 : Below w.heap.size w w4 := B3.trans (hb4.mono B3.size)
      go_wp2
      go_ret
      exact ⟨by rw [HR.out]; rfl, B4⟩

set_option maxHeartbeats 4000000 in
theorem sender_tf2 (b : Nat) (i pi r pr s ps d pd : Int) (za : Addr) (w : World) (hb : b < w.heap.size) (h0 : smB i r s ps i pi = true) (h1 : smB i r d pd r pr = false) (h2 : smB i r s ps r pr = true) (h3 : smB i r d pd i pi = false)
    (ci0 : w.cell? ⟨b, 16, none⟩ = some (.int .u64 0)) (ci1 : w.cell? ⟨b, 17, none⟩ = some (.int .u64 (281470849515520 + i))) (ci2 : w.cell? ⟨b, 18, none⟩ = some (.pointer (some za))) (ci3 : w.cell? ⟨b, 19, none⟩ = some (.int .u16 pi))
    (cr0 : w.cell? ⟨b, 24, none⟩ = some (.int .u64 0)) (cr1 : w.cell? ⟨b, 25, none⟩ = some (.int .u64 (281470849515520 + r))) (cr2 : w.cell? ⟨b, 26, none⟩ = some (.pointer (some za))) (cr3 : w.cell? ⟨b, 27, none⟩ = some (.int .u16 pr)) :
    Calls Ybad.prog 6 #[.pointer (some ⟨b, 0, none⟩), .agg #[.int .u64 0, .int .u64 (281470849515520 + s), .pointer (some za), .int .u16 ps], .agg #[.int .u64 0, .int .u64 (281470849515520 + d), .pointer (some za), .int .u16 pd]] w fun e w' => e = .returned (.int .i64 (sdB i pi r pr s ps d pd)) ∧ Below w.heap.size w w' := by
  have hmf : ∀ (fn : Fn) (first cap : Array Value) (w : World), (Instr.makeFunc fn first cap).run Ybad.prog w = .ok (.func fn first cap) w := fun _ _ _ _ => rfl
  have HR : Hid (sdB i pi r pr s ps d pd = -1) := by show _ = _; simp [sdB, h0, h1, h2, h3]
  have gb1 : b < w.heap.size + 1 := by omega
  have gb2 : b < w.heap.size + 1 + 1 := by omega
  have gb3 : b < w.heap.size + 1 + 1 + 1 := by omega
  have gb4 : b < w.heap.size + 1 + 1 + 1 + 1 := by omega
  have gb5 : b < w.heap.size + 1 + 1 + 1 + 1 + 1 := by omega
  have gb6 : b < w.heap.size + 1 + 1 + 1 + 1 + 1 + 1 := by omega
  go_enter Ybad.func6, Ybad.ntmps6
  go_wp2
  go_region_held3 (fun w' => w'.cell? ⟨b, 16, none⟩ = some (.int .u64 0) ∧ w'.cell? ⟨b, 17, none⟩ = some (.int .u64 (281470849515520 + i)) ∧ w'.cell? ⟨b, 18, none⟩ = some (.pointer (some za)) ∧ w'.cell? ⟨b, 19, none⟩ = some (.int .u16 pi) ∧ w'.cell? ⟨b, 24, none⟩ = some (.int .u64 0) ∧ w'.cell? ⟨b, 25, none⟩ = some (.int .u64 (281470849515520 + r)) ∧ w'.cell? ⟨b, 26, none⟩ = some (.pointer (some za)) ∧ w'.cell? ⟨b, 27, none⟩ = some (.int .u16 pr))
    (refine ⟨?_, ?_, ?_, ?_, ?_, ?_, ?_, ?_⟩ <;> go_simp)
    (fail)
  ·
      rename_i hHeld
      clear hHeld
      generalize hW : World.drew _ = W0
      have zi0 : w.heap.size + 1 + 1 < W0.heap.size := by rw [← hW]; simp [World.drew]
      have zr0 : w.heap.size + 1 + 1 + 1 < W0.heap.size := by rw [← hW]; simp [World.drew]
      have B0 : Below w.heap.size w W0 := by rw [← hW]; exact (by repeat (first | exact Below.refl _ _ | refine Below.drew ?_ | refine Below.alloc ?_ (by first | omega | (simp; done) | (simp; omega)) _))
      have s00 : W0.cell? ⟨w.heap.size, 0, none⟩ = some (.int .u64 0) := by rw [← hW]; clear hW; go_simp
      have s01 : W0.cell? ⟨w.heap.size, 1, none⟩ = some (.int .u64 (281470849515520 + s)) := by rw [← hW]; clear hW; go_simp
      have s02 : W0.cell? ⟨w.heap.size, 2, none⟩ = some (.pointer (some za)) := by rw [← hW]; clear hW; go_simp
      have s03 : W0.cell? ⟨w.heap.size, 3, none⟩ = some (.int .u16 ps) := by rw [← hW]; clear hW; go_simp
      have d00 : W0.cell? ⟨w.heap.size + 1, 0, none⟩ = some (.int .u64 0) := by rw [← hW]; clear hW; go_simp
      have d01 : W0.cell? ⟨w.heap.size + 1, 1, none⟩ = some (.int .u64 (281470849515520 + d)) := by rw [← hW]; clear hW; go_simp
      have d02 : W0.cell? ⟨w.heap.size + 1, 2, none⟩ = some (.pointer (some za)) := by rw [← hW]; clear hW; go_simp
      have d03 : W0.cell? ⟨w.heap.size + 1, 3, none⟩ = some (.int .u16 pd) := by rw [← hW]; clear hW; go_simp
      have i00 : W0.cell? ⟨w.heap.size + 1 + 1, 0, none⟩ = some (.int .u64 0) := by rw [← hW]; clear hW; go_simp
      have i01 : W0.cell? ⟨w.heap.size + 1 + 1, 1, none⟩ = some (.int .u64 (281470849515520 + i)) := by rw [← hW]; clear hW; go_simp
      have i02 : W0.cell? ⟨w.heap.size + 1 + 1, 2, none⟩ = some (.pointer (some za)) := by rw [← hW]; clear hW; go_simp
      have i03 : W0.cell? ⟨w.heap.size + 1 + 1, 3, none⟩ = some (.int .u16 pi) := by rw [← hW]; clear hW; go_simp
      have r00 : W0.cell? ⟨w.heap.size + 1 + 1 + 1, 0, none⟩ = some (.int .u64 0) := by rw [← hW]; clear hW; go_simp
      have r01 : W0.cell? ⟨w.heap.size + 1 + 1 + 1, 1, none⟩ = some (.int .u64 (281470849515520 + r)) := by rw [← hW]; clear hW; go_simp
      have r02 : W0.cell? ⟨w.heap.size + 1 + 1 + 1, 2, none⟩ = some (.pointer (some za)) := by rw [← hW]; clear hW; go_simp
      have r03 : W0.cell? ⟨w.heap.size + 1 + 1 + 1, 3, none⟩ = some (.int .u16 pr) := by rw [← hW]; clear hW; go_simp
      clear hW
      go_wp2_with fail
      refine (same_all (w.heap.size + 1 + 1) (w.heap.size + 1 + 1 + 1) i r pi pr s ps i pi za _ zi0 zr0 i00 i01 i02 i03 r00 r01 r02 r03).mono ?_
      rintro e w1 ⟨rfl, hb1⟩
      have s10 := cell_later hb1 s00
      have s11 := cell_later hb1 s01
      have s12 := cell_later hb1 s02
      have s13 := cell_later hb1 s03
      have d10 := cell_later hb1 d00
      have d11 := cell_later hb1 d01
      have d12 := cell_later hb1 d02
      have d13 := cell_later hb1 d03
      have i10 := cell_later hb1 i00
      have i11 := cell_later hb1 i01
      have i12 := cell_later hb1 i02
      have i13 := cell_later hb1 i03
      have r10 := cell_later hb1 r00
      have r11 := cell_later hb1 r01
      have r12 := cell_later hb1 r02
      have r13 := cell_later hb1 r03
      have zi1 : w.heap.size + 1 + 1 < w1.heap.size := Nat.lt_of_lt_of_le zi0 hb1.size
      have zr1 : w.heap.size + 1 + 1 + 1 < w1.heap.size := Nat.lt_of_lt_of_le zr0 hb1.size
      clear s00 s01 s02 s03 d00 d01 d02 d03 i00 i01 i02 i03 r00 r01 r02 r03
      have B1 : Below w.heap.size w w1 := B0.trans (hb1.mono B0.size)
      go_wp2_with fail
      refine (same_all (w.heap.size + 1 + 1) (w.heap.size + 1 + 1 + 1) i r pi pr d pd r pr za _ zi1 zr1 i10 i11 i12 i13 r10 r11 r12 r13).mono ?_
      rintro e w2 ⟨rfl, hb2⟩
      have s20 := cell_later hb2 s10
      have s21 := cell_later hb2 s11
      have s22 := cell_later hb2 s12
      have s23 := cell_later hb2 s13
      have d20 := cell_later hb2 d10
      have d21 := cell_later hb2 d11
      have d22 := cell_later hb2 d12
      have d23 := cell_later hb2 d13
      have i20 := cell_later hb2 i10
      have i21 := cell_later hb2 i11
      have i22 := cell_later hb2 i12
      have i23 := cell_later hb2 i13
      have r20 := cell_later hb2 r10
      have r21 := cell_later hb2 r11
      have r22 := cell_later hb2 r12
      have r23 := cell_later hb2 r13
      have zi2 : w.heap.size + 1 + 1 < w2.heap.size := Nat.lt_of_lt_of_le zi1 hb2.size
      have zr2 : w.heap.size + 1 + 1 + 1 < w2.heap.size := Nat.lt_of_lt_of_le zr1 hb2.size
      clear s10 s11 s12 s13 d10 d11 d12 d13 i10 i11 i12 i13 r10 r11 r12 r13
      have B2 : Below w.heap.size w w2 := B1.trans (hb2.mono B1.size)
      go_wp2_with fail
      refine (same_all (w.heap.size + 1 + 1) (w.heap.size + 1 + 1 + 1) i r pi pr s ps r pr za _ zi2 zr2 i20 i21 i22 i23 r20 r21 r22 r23).mono ?_
      rintro e w3 ⟨rfl, hb3⟩
      have s30 := cell_later hb3 s20
      have s31 := cell_later hb3 s21
      have s32 := cell_later hb3 s22
      have s33 := cell_later hb3 s23
      have d30 := cell_later hb3 d20
      have d31 := cell_later hb3 d21
      have d32 := cell_later hb3 d22
      have d33 := cell_later hb3 d23
      have i30 := cell_later hb3 i20
      have i31 := cell_later hb3 i21
      have i32 := cell_later hb3 i22
      have i33 := cell_later hb3 i23
      have r30 := cell_later hb3 r20
      have r31 := cell_later hb3 r21
      have r32 := cell_later hb3 r22
      have r33 := cell_later hb3 r23
      have zi3 : w.heap.size + 1 + 1 < w3.heap.size := Nat.lt_of_lt_of_le zi2 hb3.size
      have zr3 : w.heap.size + 1 + 1 + 1 < w3.heap.size := Nat.lt_of_lt_of_le zr2 hb3.size
      clear s20 s21 s22 s23 d20 d21 d22 d23 i20 i21 i22 i23 r20 r21 r22 r23
      have B3 : Below w.heap.size w w3 := B2.trans (hb3.mono B2.size)
      go_wp2_with fail
      refine (same_all (w.heap.size + 1 + 1) (w.heap.size + 1 + 1 + 1) i r pi pr d pd i pi za _ zi3 zr3 i30 i31 i32 i33 r30 r31 r32 r33).mono ?_
      rintro e w4 ⟨rfl, hb4⟩
      have s40 := cell_later hb4 s30
      have s41 := cell_later hb4 s31
      have s42 := cell_later hb4 s32
      have s43 := cell_later hb4 s33
      have d40 := cell_later hb4 d30
      have d41 := cell_later hb4 d31
      have d42 := cell_later hb4 d32
      have d43 := cell_later hb4 d33
      have i40 := cell_later hb4 i30
      have i41 := cell_later hb4 i31
      have i42 := cell_later hb4 i32
      have i43 := cell_later hb4 i33
      have r40 := cell_later hb4 r30
      have r41 := cell_later hb4 r31
      have r42 := cell_later hb4 r32
      have r43 := cell_later hb4 r33
      have zi4 : w.heap.size + 1 + 1 < w4.heap.size := Nat.lt_of_lt_of_le zi3 hb4.size
      have zr4 : w.heap.size + 1 + 1 + 1 < w4.heap.size := Nat.lt_of_lt_of_le zr3 hb4.size
      clear s30 s31 s32 s33 d30 d31 d32 d33 i30 i31 i32 i33 r30 r31 r32 r33
      have B4 : Below w.heap.size w w4 := B3.trans (hb4.mono B3.size)
      go_wp2
      go_ret
      exact ⟨by rw [HR.out]; rfl, B4⟩
  ·
      rename_i hHeld
      clear hHeld
      generalize hW : World.drew _ = W0
      have zi0 : w.heap.size + 1 + 1 + 1 < W0.heap.size := by rw [← hW]; simp [World.drew]
      have zr0 : w.heap.size + 1 + 1 < W0.heap.size := by rw [← hW]; simp [World.drew]
      have B0 : Below w.heap.size w W0 := by rw [← hW]; exact (by repeat (first | exact Below.refl _ _ | refine Below.drew ?_ | refine Below.alloc ?_ (by first | omega | (simp; done) | (simp; omega)) _))
      have s00 : W0.cell? ⟨w.heap.size, 0, none⟩ = some (.int .u64 0) := by rw [← hW]; clear hW; go_simp
      have s01 : W0.cell? ⟨w.heap.size, 1, none⟩ = some (.int .u64 (281470849515520 + s)) := by rw [← hW]; clear hW; go_simp
      have s02 : W0.cell? ⟨w.heap.size, 2, none⟩ = some (.pointer (some za)) := by rw [← hW]; clear hW; go_simp
      have s03 : W0.cell? ⟨w.heap.size, 3, none⟩ = some (.int .u16 ps) := by rw [← hW]; clear hW; go_simp
      have d00 : W0.cell? ⟨w.heap.size + 1, 0, none⟩ = some (.int .u64 0) := by rw [← hW]; clear hW; go_simp
      have d01 : W0.cell? ⟨w.heap.size + 1, 1, none⟩ = some (.int .u64 (281470849515520 + d)) := by rw [← hW]; clear hW; go_simp
      have d02 : W0.cell? ⟨w.heap.size + 1, 2, none⟩ = some (.pointer (some za)) := by rw [← hW]; clear hW; go_simp
      have d03 : W0.cell? ⟨w.heap.size + 1, 3, none⟩ = some (.int .u16 pd) := by rw [← hW]; clear hW; go_simp
      have i00 : W0.cell? ⟨w.heap.size + 1 + 1 + 1, 0, none⟩ = some (.int .u64 0) := by rw [← hW]; clear hW; go_simp
      have i01 : W0.cell? ⟨w.heap.size + 1 + 1 + 1, 1, none⟩ = some (.int .u64 (281470849515520 + i)) := by rw [← hW]; clear hW; go_simp
      have i02 : W0.cell? ⟨w.heap.size + 1 + 1 + 1, 2, none⟩ = some (.pointer (some za)) := by rw [← hW]; clear hW; go_simp
      have i03 : W0.cell? ⟨w.heap.size + 1 + 1 + 1, 3, none⟩ = some (.int .u16 pi) := by rw [← hW]; clear hW; go_simp
      have r00 : W0.cell? ⟨w.heap.size + 1 + 1, 0, none⟩ = some (.int .u64 0) := by rw [← hW]; clear hW; go_simp
      have r01 : W0.cell? ⟨w.heap.size + 1 + 1, 1, none⟩ = some (.int .u64 (281470849515520 + r)) := by rw [← hW]; clear hW; go_simp
      have r02 : W0.cell? ⟨w.heap.size + 1 + 1, 2, none⟩ = some (.pointer (some za)) := by rw [← hW]; clear hW; go_simp
      have r03 : W0.cell? ⟨w.heap.size + 1 + 1, 3, none⟩ = some (.int .u16 pr) := by rw [← hW]; clear hW; go_simp
      clear hW
      go_wp2_with fail
      refine (same_all (w.heap.size + 1 + 1 + 1) (w.heap.size + 1 + 1) i r pi pr s ps i pi za _ zi0 zr0 i00 i01 i02 i03 r00 r01 r02 r03).mono ?_
      rintro e w1 ⟨rfl, hb1⟩
      have s10 := cell_later hb1 s00
      have s11 := cell_later hb1 s01
      have s12 := cell_later hb1 s02
      have s13 := cell_later hb1 s03
      have d10 := cell_later hb1 d00
      have d11 := cell_later hb1 d01
      have d12 := cell_later hb1 d02
      have d13 := cell_later hb1 d03
      have i10 := cell_later hb1 i00
      have i11 := cell_later hb1 i01
      have i12 := cell_later hb1 i02
      have i13 := cell_later hb1 i03
      have r10 := cell_later hb1 r00
      have r11 := cell_later hb1 r01
      have r12 := cell_later hb1 r02
      have r13 := cell_later hb1 r03
      have zi1 : w.heap.size + 1 + 1 + 1 < w1.heap.size := Nat.lt_of_lt_of_le zi0 hb1.size
      have zr1 : w.heap.size + 1 + 1 < w1.heap.size := Nat.lt_of_lt_of_le zr0 hb1.size
      clear s00 s01 s02 s03 d00 d01 d02 d03 i00 i01 i02 i03 r00 r01 r02 r03
      have B1 : Below w.heap.size w w1 := B0.trans (hb1.mono B0.size)
      go_wp2_with fail
      refine (same_all (w.heap.size + 1 + 1 + 1) (w.heap.size + 1 + 1) i r pi pr d pd r pr za _ zi1 zr1 i10 i11 i12 i13 r10 r11 r12 r13).mono ?_
      rintro e w2 ⟨rfl, hb2⟩
      have s20 := cell_later hb2 s10
      have s21 := cell_later hb2 s11
      have s22 := cell_later hb2 s12
      have s23 := cell_later hb2 s13
      have d20 := cell_later hb2 d10
      have d21 := cell_later hb2 d11
      have d22 := cell_later hb2 d12
      have d23 := cell_later hb2 d13
      have i20 := cell_later hb2 i10
      have i21 := cell_later hb2 i11
      have i22 := cell_later hb2 i12
      have i23 := cell_later hb2 i13
      have r20 := cell_later hb2 r10
      have r21 := cell_later hb2 r11
      have r22 := cell_later hb2 r12
      have r23 := cell_later hb2 r13
      have zi2 : w.heap.size + 1 + 1 + 1 < w2.heap.size := Nat.lt_of_lt_of_le zi1 hb2.size
      have zr2 : w.heap.size + 1 + 1 < w2.heap.size := Nat.lt_of_lt_of_le zr1 hb2.size
      clear s10 s11 s12 s13 d10 d11 d12 d13 i10 i11 i12 i13 r10 r11 r12 r13
      have B2 : Below w.heap.size w w2 := B1.trans (hb2.mono B1.size)
      go_wp2_with fail
      refine (same_all (w.heap.size + 1 + 1 + 1) (w.heap.size + 1 + 1) i r pi pr s ps r pr za _ zi2 zr2 i20 i21 i22 i23 r20 r21 r22 r23).mono ?_
      rintro e w3 ⟨rfl, hb3⟩
      have s30 := cell_later hb3 s20
      have s31 := cell_later hb3 s21
      have s32 := cell_later hb3 s22
      have s33 := cell_later hb3 s23
      have d30 := cell_later hb3 d20
      have d31 := cell_later hb3 d21
      have d32 := cell_later hb3 d22
      have d33 := cell_later hb3 d23
      have i30 := cell_later hb3 i20
      have i31 := cell_later hb3 i21
      have i32 := cell_later hb3 i22
      have i33 := cell_later hb3 i23
      have r30 := cell_later hb3 r20
      have r31 := cell_later hb3 r21
      have r32 := cell_later hb3 r22
      have r33 := cell_later hb3 r23
      have zi3 : w.heap.size + 1 + 1 + 1 < w3.heap.size := Nat.lt_of_lt_of_le zi2 hb3.size
      have zr3 : w.heap.size + 1 + 1 < w3.heap.size := Nat.lt_of_lt_of_le zr2 hb3.size
      clear s20 s21 s22 s23 d20 d21 d22 d23 i20 i21 i22 i23 r20 r21 r22 r23
      have B3 : Below w.heap.size w w3 := B2.trans (hb3.mono B2.size)
      go_wp2_with fail
      refine (same_all (w.heap.size + 1 + 1 + 1) (w.heap.size + 1 + 1) i r pi pr d pd i pi za _ zi3 zr3 i30 i31 i32 i33 r30 r31 r32 r33).mono ?_
      rintro e w4 ⟨rfl, hb4⟩
      have s40 := cell_later hb4 s30
      have s41 := cell_later hb4 s31
      have s42 := cell_later hb4 s32
      have s43 := cell_later hb4 s33
      have d40 := cell_later hb4 d30
      have d41 := cell_later hb4 d31
      have d42 := cell_later hb4 d32
      have d43 := cell_later hb4 d33
      have i40 := cell_later hb4 i30
      have i41 := cell_later hb4 i31
      have i42 := cell_later hb4 i32
      have i43 := cell_later hb4 i33
      have r40 := cell_later hb4 r30
      have r41 := cell_later hb4 r31
      have r42 := cell_later hb4 r32
      have r43 := cell_later hb4 r33
      have zi4 : w.heap.size + 1 + 1 + 1 < w4.heap.size := Nat.lt_of_lt_of_le zi3 hb4.size
      have zr4 : w.heap.size + 1 + 1 < w4.heap.size := Nat.lt_of_lt_of_le zr3 hb4.size
      clear s30 s31 s32 s33 d30 d31 d32 d33 i30 i31 i32 i33 r30 r31 r32 r33
      have B4 : Below w.heap.size w w4 := B3.trans (hb4.mono B3.size)
      go_wp2
      go_ret
      exact ⟨by rw [HR.out]; rfl, B4⟩

set_option maxHeartbeats 4000000 in
theorem sender_tf3 (b : Nat) (i pi r pr s ps d pd : Int) (za : Addr) (w : World) (hb : b < w.heap.size) (h0 : smB i r s ps i pi = true) (h1 : smB i r d pd r pr = false) (h2 : smB i r s ps r pr = false)
    (ci0 : w.cell? ⟨b, 16, none⟩ = some (.int .u64 0)) (ci1 : w.cell? ⟨b, 17, none⟩ = some (.int .u64 (281470849515520 + i))) (ci2 : w.cell? ⟨b, 18, none⟩ = some (.pointer (some za))) (ci3 : w.cell? ⟨b, 19, none⟩ = some (.int .u16 pi))
    (cr0 : w.cell? ⟨b, 24, none⟩ = some (.int .u64 0)) (cr1 : w.cell? ⟨b, 25, none⟩ = some (.int .u64 (281470849515520 + r))) (cr2 : w.cell? ⟨b, 26, none⟩ = some (.pointer (some za))) (cr3 : w.cell? ⟨b, 27, none⟩ = some (.int .u16 pr)) :
    Calls Ybad.prog 6 #[.pointer (some ⟨b, 0, none⟩), .agg #[.int .u64 0, .int .u64 (281470849515520 + s), .pointer (some za), .int .u16 ps], .agg #[.int .u64 0, .int .u64 (281470849515520 + d), .pointer (some za), .int .u16 pd]] w fun e w' => e = .returned (.int .i64 (sdB i pi r pr s ps d pd)) ∧ Below w.heap.size w w' := by
  have hmf : ∀ (fn : Fn) (first cap : Array Value) (w : World), (Instr.makeFunc fn first cap).run Ybad.prog w = .ok (.func fn first cap) w := fun _ _ _ _ => rfl
  have HR : Hid (sdB i pi r pr s ps d pd = -1) := by show _ = _; simp [sdB, h0, h1, h2]
  have gb1 : b < w.heap.size + 1 := by omega
  have gb2 : b < w.heap.size + 1 + 1 := by omega
  have gb3 : b < w.heap.size + 1 + 1 + 1 := by omega
  have gb4 : b < w.heap.size + 1 + 1 + 1 + 1 := by omega
  have gb5 : b < w.heap.size + 1 + 1 + 1 + 1 + 1 := by omega
  have gb6 : b < w.heap.size + 1 + 1 + 1 + 1 + 1 + 1 := by omega
  go_enter Ybad.func6, Ybad.ntmps6
  go_wp2
  go_region_held3 (fun w' => w'.cell? ⟨b, 16, none⟩ = some (.int .u64 0) ∧ w'.cell? ⟨b, 17, none⟩ = some (.int .u64 (281470849515520 + i)) ∧ w'.cell? ⟨b, 18, none⟩ = some (.pointer (some za)) ∧ w'.cell? ⟨b, 19, none⟩ = some (.int .u16 pi) ∧ w'.cell? ⟨b, 24, none⟩ = some (.int .u64 0) ∧ w'.cell? ⟨b, 25, none⟩ = some (.int .u64 (281470849515520 + r)) ∧ w'.cell? ⟨b, 26, none⟩ = some (.pointer (some za)) ∧ w'.cell? ⟨b, 27, none⟩ = some (.int .u16 pr))
    (refine ⟨?_, ?_, ?_, ?_, ?_, ?_, ?_, ?_⟩ <;> go_simp)
    (fail)
  ·
      rename_i hHeld
      clear hHeld
      generalize hW : World.drew _ = W0
      have zi0 : w.heap.size + 1 + 1 < W0.heap.size := by rw [← hW]; simp [World.drew]
      have zr0 : w.heap.size + 1 + 1 + 1 < W0.heap.size := by rw [← hW]; simp [World.drew]
      have B0 : Below w.heap.size w W0 := by rw [← hW]; exact (by repeat (first | exact Below.refl _ _ | refine Below.drew ?_ | refine Below.alloc ?_ (by first | omega | (simp; done) | (simp; omega)) _))
      have s00 : W0.cell? ⟨w.heap.size, 0, none⟩ = some (.int .u64 0) := by rw [← hW]; clear hW; go_simp
      have s01 : W0.cell? ⟨w.heap.size, 1, none⟩ = some (.int .u64 (281470849515520 + s)) := by rw [← hW]; clear hW; go_simp
      have s02 : W0.cell? ⟨w.heap.size, 2, none⟩ = some (.pointer (some za)) := by rw [← hW]; clear hW; go_simp
      have s03 : W0.cell? ⟨w.heap.size, 3, none⟩ = some (.int .u16 ps) := by rw [← hW]; clear hW; go_simp
      have d00 : W0.cell? ⟨w.heap.size + 1, 0, none⟩ = some (.int .u64 0) := by rw [← hW]; clear hW; go_simp
      have d01 : W0.cell? ⟨w.heap.size + 1, 1, none⟩ = some (.int .u64 (281470849515520 + d)) := by rw [← hW]; clear hW; go_simp
      have d02 : W0.cell? ⟨w.heap.size + 1, 2, none⟩ = some (.pointer (some za)) := by rw [← hW]; clear hW; go_simp
      have d03 : W0.cell? ⟨w.heap.size + 1, 3, none⟩ = some (.int .u16 pd) := by rw [← hW]; clear hW; go_simp
      have i00 : W0.cell? ⟨w.heap.size + 1 + 1, 0, none⟩ = some (.int .u64 0) := by rw [← hW]; clear hW; go_simp
      have i01 : W0.cell? ⟨w.heap.size + 1 + 1, 1, none⟩ = some (.int .u64 (281470849515520 + i)) := by rw [← hW]; clear hW; go_simp
      have i02 : W0.cell? ⟨w.heap.size + 1 + 1, 2, none⟩ = some (.pointer (some za)) := by rw [← hW]; clear hW; go_simp
      have i03 : W0.cell? ⟨w.heap.size + 1 + 1, 3, none⟩ = some (.int .u16 pi) := by rw [← hW]; clear hW; go_simp
      have r00 : W0.cell? ⟨w.heap.size + 1 + 1 + 1, 0, none⟩ = some (.int .u64 0) := by rw [← hW]; clear hW; go_simp
      have r01 : W0.cell? ⟨w.heap.size + 1 + 1 + 1, 1, none⟩ = some (.int .u64 (281470849515520 + r)) := by rw [← hW]; clear hW; go_simp
      have r02 : W0.cell? ⟨w.heap.size + 1 + 1 + 1, 2, none⟩ = some (.pointer (some za)) := by rw [← hW]; clear hW; go_simp
      have r03 : W0.cell? ⟨w.heap.size + 1 + 1 + 1, 3, none⟩ = some (.int .u16 pr) := by rw [← hW]; clear hW; go_simp
      clear hW
      go_wp2_with fail
      refine (same_all (w.heap.size + 1 + 1) (w.heap.size + 1 + 1 + 1) i r pi pr s ps i pi za _ zi0 zr0 i00 i01 i02 i03 r00 r01 r02 r03).mono ?_
      rintro e w1 ⟨rfl, hb1⟩
      have s10 := cell_later hb1 s00
      have s11 := cell_later hb1 s01
      have s12 := cell_later hb1 s02
      have s13 := cell_later hb1 s03
      have d10 := cell_later hb1 d00
      have d11 := cell_later hb1 d01
      have d12 := cell_later hb1 d02
      have d13 := cell_later hb1 d03
      have i10 := cell_later hb1 i00
      have i11 := cell_later hb1 i01
      have i12 := cell_later hb1 i02
      have i13 := cell_later hb1 i03
      have r10 := cell_later hb1 r00
      have r11 := cell_later hb1 r01
      have r12 := cell_later hb1 r02
      have r13 := cell_later hb1 r03
      have zi1 : w.heap.size + 1 + 1 < w1.heap.size := Nat.lt_of_lt_of_le zi0 hb1.size
      have zr1 : w.heap.size + 1 + 1 + 1 < w1.heap.size := Nat.lt_of_lt_of_le zr0 hb1.size
      clear s00 s01 s02 s03 d00 d01 d02 d03 i00 i01 i02 i03 r00 r01 r02 r03
      have B1 : Below w.heap.size w w1 := B0.trans (hb1.mono B0.size)
      go_wp2_with fail
      refine (same_all (w.heap.size + 1 + 1) (w.heap.size + 1 + 1 + 1) i r pi pr d pd r pr za _ zi1 zr1 i10 i11 i12 i13 r10 r11 r12 r13).mono ?_
      rintro e w2 ⟨rfl, hb2⟩
      have s20 := cell_later hb2 s10
      have s21 := cell_later hb2 s11
      have s22 := cell_later hb2 s12
      have s23 := cell_later hb2 s13
      have d20 := cell_later hb2 d10
      have d21 := cell_later hb2 d11
      have d22 := cell_later hb2 d12
      have d23 := cell_later hb2 d13
      have i20 := cell_later hb2 i10
      have i21 := cell_later hb2 i11
      have i22 := cell_later hb2 i12
      have i23 := cell_later hb2 i13
      have r20 := cell_later hb2 r10
      have r21 := cell_later hb2 r11
      have r22 := cell_later hb2 r12
      have r23 := cell_later hb2 r13
      have zi2 : w.heap.size + 1 + 1 < w2.heap.size := Nat.lt_of_lt_of_le zi1 hb2.size
      have zr2 : w.heap.size + 1 + 1 + 1 < w2.heap.size := Nat.lt_of_lt_of_le zr1 hb2.size
      clear s10 s11 s12 s13 d10 d11 d12 d13 i10 i11 i12 i13 r10 r11 r12 r13
      have B2 : Below w.heap.size w w2 := B1.trans (hb2.mono B1.size)
      go_wp2_with fail
      refine (same_all (w.heap.size + 1 + 1) (w.heap.size + 1 + 1 + 1) i r pi pr s ps r pr za _ zi2 zr2 i20 i21 i22 i23 r20 r21 r22 r23).mono ?_
      rintro e w3 ⟨rfl, hb3⟩
      have s30 := cell_later hb3 s20
      have s31 := cell_later hb3 s21
      have s32 := cell_later hb3 s22
      have s33 := cell_later hb3 s23
      have d30 := cell_later hb3 d20
      have d31 := cell_later hb3 d21
      have d32 := cell_later hb3 d22
      have d33 := cell_later hb3 d23
      have i30 := cell_later hb3 i20
      have i31 := cell_later hb3 i21
      have i32 := cell_later hb3 i22
      have i33 := cell_later hb3 i23
      have r30 := cell_later hb3 r20
      have r31 := cell_later hb3 r21
      have r32 := cell_later hb3 r22
      have r33 := cell_later hb3 r23
      have zi3 : w.heap.size + 1 + 1 < w3.heap.size := Nat.lt_of_lt_of_le zi2 hb3.size
      have zr3 : w.heap.size + 1 + 1 + 1 < w3.heap.size := Nat.lt_of_lt_of_le zr2 hb3.size
      clear s20 s21 s22 s23 d20 d21 d22 d23 i20 i21 i22 i23 r20 r21 r22 r23
      have B3 : Below w.heap.size w w3 := B2.trans (hb3.mono B2.size)
      go_wp2
      go_ret
      exact ⟨by rw [HR.out]; rfl, B3⟩
  ·
      rename_i hHeld
      clear hHeld
      generalize hW : World.drew _ = W0
      have zi0 : w.heap.size + 1 + 1 + 1 < W0.heap.size := by rw [← hW]; simp [World.drew]
      have zr0 : w.heap.size + 1 + 1 < W0.heap.size := by rw [← hW]; simp [World.drew]
      have B0 : Below w.heap.size w W0 := by rw [← hW]; exact (by repeat (first | exact Below.refl _ _ | refine Below.drew ?_ | refine Below.alloc ?_ (by first | omega | (simp; done) | (simp; omega)) _))
      have s00 : W0.cell? ⟨w.heap.size, 0, none⟩ = some (.int .u64 0) := by rw [← hW]; clear hW; go_simp
      have s01 : W0.cell? ⟨w.heap.size, 1, none⟩ = some (.int .u64 (281470849515520 + s)) := by rw [← hW]; clear hW; go_simp
      have s02 : W0.cell? ⟨w.heap.size, 2, none⟩ = some (.pointer (some za)) := by rw [← hW]; clear hW; go_simp
      have s03 : W0.cell? ⟨w.heap.size, 3, none⟩ = some (.int .u16 ps) := by rw [← hW]; clear hW; go_simp
      have d00 : W0.cell? ⟨w.heap.size + 1, 0, none⟩ = some (.int .u64 0) := by rw [← hW]; clear hW; go_simp
      have d01 : W0.cell? ⟨w.heap.size + 1, 1, none⟩ = some (.int .u64 (281470849515520 + d)) := by rw [← hW]; clear hW; go_simp
      have d02 : W0.cell? ⟨w.heap.size + 1, 2, none⟩ = some (.pointer (some za)) := by rw [← hW]; clear hW; go_simp
      have d03 : W0.cell? ⟨w.heap.size + 1, 3, none⟩ = some (.int .u16 pd) := by rw [← hW]; clear hW; go_simp
      have i00 : W0.cell? ⟨w.heap.size + 1 + 1 + 1, 0, none⟩ = some (.int .u64 0) := by rw [← hW]; clear hW; go_simp
      have i01 : W0.cell? ⟨w.heap.size + 1 + 1 + 1, 1, none⟩ = some (.int .u64 (281470849515520 + i)) := by rw [← hW]; clear hW; go_simp
      have i02 : W0.cell? ⟨w.heap.size + 1 + 1 + 1, 2, none⟩ = some (.pointer (some za)) := by rw [← hW]; clear hW; go_simp
      have i03 : W0.cell? ⟨w.heap.size + 1 + 1 + 1, 3, none⟩ = some (.int .u16 pi) := by rw [← hW]; clear hW; go_simp
      have r00 : W0.cell? ⟨w.heap.size + 1 + 1, 0, none⟩ = some (.int .u64 0) := by rw [← hW]; clear hW; go_simp
      have r01 : W0.cell? ⟨w.heap.size + 1 + 1, 1, none⟩ = some (.int .u64 (281470849515520 + r)) := by rw [← hW]; clear hW; go_simp
      have r02 : W0.cell? ⟨w.heap.size + 1 + 1, 2, none⟩ = some (.pointer (some za)) := by rw [← hW]; clear hW; go_simp
      have r03 : W0.cell? ⟨w.heap.size + 1 + 1, 3, none⟩ = some (.int .u16 pr) := by rw [← hW]; clear hW; go_simp
      clear hW
      go_wp2_with fail
      refine (same_all (w.heap.size + 1 + 1 + 1) (w.heap.size + 1 + 1) i r pi pr s ps i pi za _ zi0 zr0 i00 i01 i02 i03 r00 r01 r02 r03).mono ?_
      rintro e w1 ⟨rfl, hb1⟩
      have s10 := cell_later hb1 s00
      have s11 := cell_later hb1 s01
      have s12 := cell_later hb1 s02
      have s13 := cell_later hb1 s03
      have d10 := cell_later hb1 d00
      have d11 := cell_later hb1 d01
      have d12 := cell_later hb1 d02
      have d13 := cell_later hb1 d03
      have i10 := cell_later hb1 i00
      have i11 := cell_later hb1 i01
      have i12 := cell_later hb1 i02
      have i13 := cell_later hb1 i03
      have r10 := cell_later hb1 r00
      have r11 := cell_later hb1 r01
      have r12 := cell_later hb1 r02
      have r13 := cell_later hb1 r03
      have zi1 : w.heap.size + 1 + 1 + 1 < w1.heap.size := Nat.lt_of_lt_of_le zi0 hb1.size
      have zr1 : w.heap.size + 1 + 1 < w1.heap.size := Nat.lt_of_lt_of_le zr0 hb1.size
      clear s00 s01 s02 s03 d00 d01 d02 d03 i00 i01 i02 i03 r00 r01 r02 r03
      have B1 : Below w.heap.size w w1 := B0.trans (hb1.mono B0.size)
      go_wp2_with fail
      refine (same_all (w.heap.size + 1 + 1 + 1) (w.heap.size + 1 + 1) i r pi pr d pd r pr za _ zi1 zr1 i10 i11 i12 i13 r10 r11 r12 r13).mono ?_
      rintro e w2 ⟨rfl, hb2⟩
      have s20 := cell_later hb2 s10
      have s21 := cell_later hb2 s11
      have s22 := cell_later hb2 s12
      have s23 := cell_later hb2 s13
      have d20 := cell_later hb2 d10
      have d21 := cell_later hb2 d11
      have d22 := cell_later hb2 d12
      have d23 := cell_later hb2 d13
      have i20 := cell_later hb2 i10
      have i21 := cell_later hb2 i11
      have i22 := cell_later hb2 i12
      have i23 := cell_later hb2 i13
      have r20 := cell_later hb2 r10
      have r21 := cell_later hb2 r11
      have r22 := cell_later hb2 r12
      have r23 := cell_later hb2 r13
      have zi2 : w.heap.size + 1 + 1 + 1 < w2.heap.size := Nat.lt_of_lt_of_le zi1 hb2.size
      have zr2 : w.heap.size + 1 + 1 < w2.heap.size := Nat.lt_of_lt_of_le zr1 hb2.size
      clear s10 s11 s12 s13 d10 d11 d12 d13 i10 i11 i12 i13 r10 r11 r12 r13
      have B2 : Below w.heap.size w w2 := B1.trans (hb2.mono B1.size)
      go_wp2_with fail
      refine (same_all (w.heap.size + 1 + 1 + 1) (w.heap.size + 1 + 1) i r pi pr s ps r pr za _ zi2 zr2 i20 i21 i22 i23 r20 r21 r22 r23).mono ?_
      rintro e w3 ⟨rfl, hb3⟩
      have s30 := cell_later hb3 s20
      have s31 := cell_later hb3 s21
      have s32 := cell_later hb3 s22
      have s33 := cell_later hb3 s23
      have d30 := cell_later hb3 d20
      have d31 := cell_later hb3 d21
      have d32 := cell_later hb3 d22
      have d33 := cell_later hb3 d23
      have i30 := cell_later hb3 i20
      have i31 := cell_later hb3 i21
      have i32 := cell_later hb3 i22
      have i33 := cell_later hb3 i23
      have r30 := cell_later hb3 r20
      have r31 := cell_later hb3 r21
      have r32 := cell_later hb3 r22
      have r33 := cell_later hb3 r23
      have zi3 : w.heap.size + 1 + 1 + 1 < w3.heap.size := Nat.lt_of_lt_of_le zi2 hb3.size
      have zr3 : w.heap.size + 1 + 1 < w3.heap.size := Nat.lt_of_lt_of_le zr2 hb3.size
      clear s20 s21 s22 s23 d20 d21 d22 d23 i20 i21 i22 i23 r20 r21 r22 r23
      have B3 : Below w.heap.size w w3 := B2.trans (hb3.mono B2.size)
      go_wp2
      go_ret
      exact ⟨by rw [HR.out]; rfl, B3⟩

set_option maxHeartbeats 4000000 in
theorem sender_f1 (b : Nat) (i pi r pr s ps d pd : Int) (za : Addr) (w : World) (hb : b < w.heap.size) (h0 : smB i r s ps i pi = false) (h1 : smB i r s ps r pr = true) (h2 : smB i r d pd i pi = true)
    (ci0 : w.cell? ⟨b, 16, none⟩ = some (.int .u64 0)) (ci1 : w.cell? ⟨b, 17, none⟩ = some (.int .u64 (281470849515520 + i))) (ci2 : w.cell? ⟨b, 18, none⟩ = some (.pointer (some za))) (ci3 : w.cell? ⟨b, 19, none⟩ = some (.int .u16 pi))
    (cr0 : w.cell? ⟨b, 24, none⟩ = some (.int .u64 0)) (cr1 : w.cell? ⟨b, 25, none⟩ = some (.int .u64 (281470849515520 + r))) (cr2 : w.cell? ⟨b, 26, none⟩ = some (.pointer (some za))) (cr3 : w.cell? ⟨b, 27, none⟩ = some (.int .u16 pr)) :
    Calls Ybad.prog 6 #[.pointer (some ⟨b, 0, none⟩), .agg #[.int .u64 0, .int .u64 (281470849515520 + s), .pointer (some za), .int .u16 ps], .agg #[.int .u64 0, .int .u64 (281470849515520 + d), .pointer (some za), .int .u16 pd]] w fun e w' => e = .returned (.int .i64 (sdB i pi r pr s ps d pd)) ∧ Below w.heap.size w w' := by
  have hmf : ∀ (fn : Fn) (first cap : Array Value) (w : World), (Instr.makeFunc fn first cap).run Ybad.prog w = .ok (.func fn first cap) w := fun _ _ _ _ => rfl
  have HR : Hid (sdB i pi r pr s ps d pd = 1) := by show _ = _; simp [sdB, h0, h1, h2]
  have gb1 : b < w.heap.size + 1 := by omega
  have gb2 : b < w.heap.size + 1 + 1 := by omega
  have gb3 : b < w.heap.size + 1 + 1 + 1 := by omega
  have gb4 : b < w.heap.size + 1 + 1 + 1 + 1 := by omega
  have gb5 : b < w.heap.size + 1 + 1 + 1 + 1 + 1 := by omega
  have gb6 : b < w.heap.size + 1 + 1 + 1 + 1 + 1 + 1 := by omega
  go_enter Ybad.func6, Ybad.ntmps6
  go_wp2
  go_region_held3 (fun w' => w'.cell? ⟨b, 16, none⟩ = some (.int .u64 0) ∧ w'.cell? ⟨b, 17, none⟩ = some (.int .u64 (281470849515520 + i)) ∧ w'.cell? ⟨b, 18, none⟩ = some (.pointer (some za)) ∧ w'.cell? ⟨b, 19, none⟩ = some (.int .u16 pi) ∧ w'.cell? ⟨b, 24, none⟩ = some (.int .u64 0) ∧ w'.cell? ⟨b, 25, none⟩ = some (.int .u64 (281470849515520 + r)) ∧ w'.cell? ⟨b, 26, none⟩ = some (.pointer (some za)) ∧ w'.cell? ⟨b, 27, none⟩ = some (.int .u16 pr))
    (refine ⟨?_, ?_, ?_, ?_, ?_, ?_, ?_, ?_⟩ <;> go_simp)
    (fail)
  ·
      rename_i hHeld
      clear hHeld
      generalize hW : World.drew _ = W0
      have zi0 : w.heap.size + 1 + 1 < W0.heap.size := by rw [← hW]; simp [World.drew]
      have zr0 : w.heap.size + 1 + 1 + 1 < W0.heap.size := by rw [← hW]; simp [World.drew]
      have B0 : Below w.heap.size w W0 := by rw [← hW]; exact (by repeat (first | exact Below.refl _ _ | refine Below.drew ?_ | refine Below.alloc ?_ (by first | omega | (simp; done) | (simp; omega)) _))
      have s00 : W0.cell? ⟨w.heap.size, 0, none⟩ = some (.int .u64 0) := by rw [← hW]; clear hW; go_simp
      have s01 : W0.cell? ⟨w.heap.size, 1, none⟩ = some (.int .u64 (281470849515520 + s)) := by rw [← hW]; clear hW; go_simp
      have s02 : W0.cell? ⟨w.heap.size, 2, none⟩ = some (.pointer (some za)) := by rw [← hW]; clear hW; go_simp
      have s03 : W0.cell? ⟨w.heap.size, 3, none⟩ = some (.int .u16 ps) := by rw [← hW]; clear hW; go_simp
      have d00 : W0.cell? ⟨w.heap.size + 1, 0, none⟩ = some (.int .u64 0) := by rw [← hW]; clear hW; go_simp
      have d01 : W0.cell? ⟨w.heap.size + 1, 1, none⟩ = some (.int .u64 (281470849515520 + d)) := by rw [← hW]; clear hW; go_simp
      have d02 : W0.cell? ⟨w.heap.size + 1, 2, none⟩ = some (.pointer (some za)) := by rw [← hW]; clear hW; go_simp
      have d03 : W0.cell? ⟨w.heap.size + 1, 3, none⟩ = some (.int .u16 pd) := by rw [← hW]; clear hW; go_simp
      have i00 : W0.cell? ⟨w.heap.size + 1 + 1, 0, none⟩ = some (.int .u64 0) := by rw [← hW]; clear hW; go_simp
      have i01 : W0.cell? ⟨w.heap.size + 1 + 1, 1, none⟩ = some (.int .u64 (281470849515520 + i)) := by rw [← hW]; clear hW; go_simp
      have i02 : W0.cell? ⟨w.heap.size + 1 + 1, 2, none⟩ = some (.pointer (some za)) := by rw [← hW]; clear hW; go_simp
      have i03 : W0.cell? ⟨w.heap.size + 1 + 1, 3, none⟩ = some (.int .u16 pi) := by rw [← hW]; clear hW; go_simp
      have r00 : W0.cell? ⟨w.heap.size + 1 + 1 + 1, 0, none⟩ = some (.int .u64 0) := by rw [← hW]; clear hW; go_simp
      have r01 : W0.cell? ⟨w.heap.size + 1 + 1 + 1, 1, none⟩ = some (.int .u64 (281470849515520 + r)) := by rw [← hW]; clear hW; go_simp
      have r02 : W0.cell? ⟨w.heap.size + 1 + 1 + 1, 2, none⟩ = some (.pointer (some za)) := by rw [← hW]; clear hW; go_simp
      have r03 : W0.cell? ⟨w.heap.size + 1 + 1 + 1, 3, none⟩ = some (.int .u16 pr) := by rw [← hW]; clear hW; go_simp
      clear hW
      go_wp2_with fail
      refine (same_all (w.heap.size + 1 + 1) (w.heap.size + 1 + 1 + 1) i r pi pr s ps i pi za _ zi0 zr0 i00 i01 i02 i03 r00 r01 r02 r03).mono ?_
      rintro e w1 ⟨rfl, hb1⟩
      have s10 := cell_later hb1 s00
      have s11 := cell_later hb1 s01
      have s12 := cell_later hb1 s02
      have s13 := cell_later hb1 s03
      have d10 := cell_later hb1 d00
      have d11 := cell_later hb1 d01
      have d12 := cell_later hb1 d02
      have d13 := cell_later hb1 d03
      have i10 := cell_later hb1 i00
      have i11 := cell_later hb1 i01
      have i12 := cell_later hb1 i02
      have i13 := cell_later hb1 i03
      have r10 := cell_later hb1 r00
      have r11 := cell_later hb1 r01
      have r12 := cell_later hb1 r02
      have r13 := cell_later hb1 r03
      have zi1 : w.heap.size + 1 + 1 < w1.heap.size := Nat.lt_of_lt_of_le zi0 hb1.size
      have zr1 : w.heap.size + 1 + 1 + 1 < w1.heap.size := Nat.lt_of_lt_of_le zr0 hb1.size
      clear s00 s01 s02 s03 d00 d01 d02 d03 i00 i01 i02 i03 r00 r01 r02 r03
      have B1 : Below w.heap.size w w1 := B0.trans (hb1.mono B0.size)
      go_wp2_with fail
      refine (same_all (w.heap.size + 1 + 1) (w.heap.size + 1 + 1 + 1) i r pi pr s ps r pr za _ zi1 zr1 i10 i11 i12 i13 r10 r11 r12 r13).mono ?_
      rintro e w2 ⟨rfl, hb2⟩
      have s20 := cell_later hb2 s10
      have s21 := cell_later hb2 s11
      have s22 := cell_later hb2 s12
      have s23 := cell_later hb2 s13
      have d20 := cell_later hb2 d10
      have d21 := cell_later hb2 d11
      have d22 := cell_later hb2 d12
      have d23 := cell_later hb2 d13
      have i20 := cell_later hb2 i10
      have i21 := cell_later hb2 i11
      have i22 := cell_later hb2 i12
      have i23 := cell_later hb2 i13
      have r20 := cell_later hb2 r10
      have r21 := cell_later hb2 r11
      have r22 := cell_later hb2 r12
      have r23 := cell_later hb2 r13
      have zi2 : w.heap.size + 1 + 1 < w2.heap.size := Nat.lt_of_lt_of_le zi1 hb2.size
      have zr2 : w.heap.size + 1 + 1 + 1 < w2.heap.size := Nat.lt_of_lt_of_le zr1 hb2.size
      clear s10 s11 s12 s13 d10 d11 d12 d13 i10 i11 i12 i13 r10 r11 r12 r13
      have B2 : Below w.heap.size w w2 := B1.trans (hb2.mono B1.size)
      go_wp2_with fail
      refine (same_all (w.heap.size + 1 + 1) (w.heap.size + 1 + 1 + 1) i r pi pr d pd i pi za _ zi2 zr2 i20 i21 i22 i23 r20 r21 r22 r23).mono ?_
      rintro e w3 ⟨rfl, hb3⟩
      have s30 := cell_later hb3 s20
      have s31 := cell_later hb3 s21
      have s32 := cell_later hb3 s22
      have s33 := cell_later hb3 s23
      have d30 := cell_later hb3 d20
      have d31 := cell_later hb3 d21
      have d32 := cell_later hb3 d22
      have d33 := cell_later hb3 d23
      have i30 := cell_later hb3 i20
      have i31 := cell_later hb3 i21
      have i32 := cell_later hb3 i22
      have i33 := cell_later hb3 i23
      have r30 := cell_later hb3 r20
      have r31 := cell_later hb3 r21
      have r32 := cell_later hb3 r22
      have r33 := cell_later hb3 r23
      have zi3 : w.heap.size + 1 + 1 < w3.heap.size := Nat.lt_of_lt_of_le zi2 hb3.size
      have zr3 : w.heap.size + 1 + 1 + 1 < w3.heap.size := Nat.lt_of_lt_of_le zr2 hb3.size
      clear s20 s21 s22 s23 d20 d21 d22 d23 i20 i21 i22 i23 r20 r21 r22 r23
      have B3 : Below w.heap.size w w3 := B2.trans (hb3.mono B2.size)
      go_wp2
      go_ret
      exact ⟨by rw [HR.out]; rfl, B3⟩
  ·
      rename_i hHeld
      clear hHeld
      generalize hW : World.drew _ = W0
      have zi0 : w.heap.size + 1 + 1 + 1 < W0.heap.size := by rw [← hW]; simp [World.drew]
      have zr0 : w.heap.size + 1 + 1 < W0.heap.size := by rw [← hW]; simp [World.drew]
      have B0 : Below w.heap.size w W0 := by rw [← hW]; exact (by repeat (first | exact Below.refl _ _ | refine Below.drew ?_ | refine Below.alloc ?_ (by first | omega | (simp; done) | (simp; omega)) _))
      have s00 : W0.cell? ⟨w.heap.size, 0, none⟩ = some (.int .u64 0) := by rw [← hW]; clear hW; go_simp
      have s01 : W0.cell? ⟨w.heap.size, 1, none⟩ = some (.int .u64 (281470849515520 + s)) := by rw [← hW]; clear hW; go_simp
      have s02 : W0.cell? ⟨w.heap.size, 2, none⟩ = some (.pointer (some za)) := by rw [← hW]; clear hW; go_simp
      have s03 : W0.cell? ⟨w.heap.size, 3, none⟩ = some (.int .u16 ps) := by rw [← hW]; clear hW; go_simp
      have d00 : W0.cell? ⟨w.heap.size + 1, 0, none⟩ = some (.int .u64 0) := by rw [← hW]; clear hW; go_simp
      have d01 : W0.cell? ⟨w.heap.size + 1, 1, none⟩ = some (.int .u64 (281470849515520 + d)) := by rw [← hW]; clear hW; go_simp
      have d02 : W0.cell? ⟨w.heap.size + 1, 2, none⟩ = some (.pointer (some za)) := by rw [← hW]; clear hW; go_simp
      have d03 : W0.cell? ⟨w.heap.size + 1, 3, none⟩ = some (.int .u16 pd) := by rw [← hW]; clear hW; go_simp
      have i00 : W0.cell? ⟨w.heap.size + 1 + 1 + 1, 0, none⟩ = some (.int .u64 0) := by rw [← hW]; clear hW; go_simp
      have i01 : W0.cell? ⟨w.heap.size + 1 + 1 + 1, 1, none⟩ = some (.int .u64 (281470849515520 + i)) := by rw [← hW]; clear hW; go_simp
      have i02 : W0.cell? ⟨w.heap.size + 1 + 1 + 1, 2, none⟩ = some (.pointer (some za)) := by rw [← hW]; clear hW; go_simp
      have i03 : W0.cell? ⟨w.heap.size + 1 + 1 + 1, 3, none⟩ = some (.int .u16 pi) := by rw [← hW]; clear hW; go_simp
      have r00 : W0.cell? ⟨w.heap.size + 1 + 1, 0, none⟩ = some (.int .u64 0) := by rw [← hW]; clear hW; go_simp
      have r01 : W0.cell? ⟨w.heap.size + 1 + 1, 1, none⟩ = some (.int .u64 (281470849515520 + r)) := by rw [← hW]; clear hW; go_simp
      have r02 : W0.cell? ⟨w.heap.size + 1 + 1, 2, none⟩ = some (.pointer (some za)) := by rw [← hW]; clear hW; go_simp
      have r03 : W0.cell? ⟨w.heap.size + 1 + 1, 3, none⟩ = some (.int .u16 pr) := by rw [← hW]; clear hW; go_simp
      clear hW
      go_wp2_with fail
      refine (same_all (w.heap.size + 1 + 1 + 1) (w.heap.size + 1 + 1) i r pi pr s ps i pi za _ zi0 zr0 i00 i01 i02 i03 r00 r01 r02 r03).mono ?_
      rintro e w1 ⟨rfl, hb1⟩
      have s10 := cell_later hb1 s00
      have s11 := cell_later hb1 s01
      have s12 := cell_later hb1 s02
      have s13 := cell_later hb1 s03
      have d10 := cell_later hb1 d00
      have d11 := cell_later hb1 d01
      have d12 := cell_later hb1 d02
      have d13 := cell_later hb1 d03
      have i10 := cell_later hb1 i00
      have i11 := cell_later hb1 i01
      have i12 := cell_later hb1 i02
      have i13 := cell_later hb1 i03
      have r10 := cell_later hb1 r00
      have r11 := cell_later hb1 r01
      have r12 := cell_later hb1 r02
      have r13 := cell_later hb1 r03
      have zi1 : w.heap.size + 1 + 1 + 1 < w1.heap.size := Nat.lt_of_lt_of_le zi0 hb1.size
      have zr1 : w.heap.size + 1 + 1 < w1.heap.size := Nat.lt_of_lt_of_le zr0 hb1.size
      clear s00 s01 s02 s03 d00 d01 d02 d03 i00 i01 i02 i03 r00 r01 r02 r03
      have B1 : Below w.heap.size w w1 := B0.trans (hb1.mono B0.size)
      go_wp2_with fail
      refine (same_all (w.heap.size + 1 + 1 + 1) (w.heap.size + 1 + 1) i r pi pr s ps r pr za _ zi1 zr1 i10 i11 i12 i13 r10 r11 r12 r13).mono ?_
      rintro e w2 ⟨rfl, hb2⟩
      have s20 := cell_later hb2 s10
      have s21 := cell_later hb2 s11
      have s22 := cell_later hb2 s12
      have s23 := cell_later hb2 s13
      have d20 := cell_later hb2 d10
      have d21 := cell_later hb2 d11
      have d22 := cell_later hb2 d12
      have d23 := cell_later hb2 d13
      have i20 := cell_later hb2 i10
      have i21 := cell_later hb2 i11
      have i22 := cell_later hb2 i12
      have i23 := cell_later hb2 i13
      have r20 := cell_later hb2 r10
      have r21 := cell_later hb2 r11
      have r22 := cell_later hb2 r12
      have r23 := cell_later hb2 r13
      have zi2 : w.heap.size + 1 + 1 + 1 < w2.heap.size := Nat.lt_of_lt_of_le zi1 hb2.size
      have zr2 : w.heap.size + 1 + 1 < w2.heap.size := Nat.lt_of_lt_of_le zr1 hb2.size
      clear s10 s11 s12 s13 d10 d11 d12 d13 i10 i11 i12 i13 r10 r11 r12 r13
      have B2 : Below w.heap.size w w2 := B1.trans (hb2.mono B1.size)
      go_wp2_with fail
      refine (same_all (w.heap.size + 1 + 1 + 1) (w.heap.size + 1 + 1) i r pi pr d pd i pi za _ zi2 zr2 i20 i21 i22 i23 r20 r21 r22 r23).mono ?_
      rintro e w3 ⟨rfl, hb3⟩
      have s30 := cell_later hb3 s20
      have s31 := cell_later hb3 s21
      have s32 := cell_later hb3 s22
      have s33 := cell_later hb3 s23
      have d30 := cell_later hb3 d20
      have d31 := cell_later hb3 d21
      have d32 := cell_later hb3 d22
      have d33 := cell_later hb3 d23
      have i30 := cell_later hb3 i20
      have i31 := cell_later hb3 i21
      have i32 := cell_later hb3 i22
      have i33 := cell_later hb3 i23
      have r30 := cell_later hb3 r20
      have r31 := cell_later hb3 r21
      have r32 := cell_later hb3 r22
      have r33 := cell_later hb3 r23
      have zi3 : w.heap.size + 1 + 1 + 1 < w3.heap.size := Nat.lt_of_lt_of_le zi2 hb3.size
      have zr3 : w.heap.size + 1 + 1 < w3.heap.size := Nat.lt_of_lt_of_le zr2 hb3.size
      clear s20 s21 s22 s23 d20 d21 d22 d23 i20 i21 i22 i23 r20 r21 r22 r23
      have B3 : Below w.heap.size w w3 := B2.trans (hb3.mono B2.size)
      go_wp2
      go_ret
      exact ⟨by rw [HR.out]; rfl, B3⟩

set_option maxHeartbeats 4000000 in
theorem sender_f2 (b : Nat) (i pi r pr s ps d pd : Int) (za : Addr) (w : World) (hb : b < w.heap.size) (h0 : smB i r s ps i pi = false) (h1 : smB i r s ps r pr = true) (h2 : smB i r d pd i pi = false)
    (ci0 : w.cell? ⟨b, 16, none⟩ = some (.int .u64 0)) (ci1 : w.cell? ⟨b, 17, none⟩ = some (.int .u64 (281470849515520 + i))) (ci2 : w.cell? ⟨b, 18, none⟩ = some (.pointer (some za))) (ci3 : w.cell? ⟨b, 19, none⟩ = some (.int .u16 pi))
    (cr0 : w.cell? ⟨b, 24, none⟩ = some (.int .u64 0)) (cr1 : w.cell? ⟨b, 25, none⟩ = some (.int .u64 (281470849515520 + r))) (cr2 : w.cell? ⟨b, 26, none⟩ = some (.pointer (some za))) (cr3 : w.cell? ⟨b, 27, none⟩ = some (.int .u16 pr)) :
    Calls Ybad.prog 6 #[.pointer (some ⟨b, 0, none⟩), .agg #[.int .u64 0, .int .u64 (281470849515520 + s), .pointer (some za), .int .u16 ps], .agg #[.int .u64 0, .int .u64 (281470849515520 + d), .pointer (some za), .int .u16 pd]] w fun e w' => e = .returned (.int .i64 (sdB i pi r pr s ps d pd)) ∧ Below w.heap.size w w' := by
  have hmf : ∀ (fn : Fn) (first cap : Array Value) (w : World), (Instr.makeFunc fn first cap).run Ybad.prog w = .ok (.func fn first cap) w := fun _ _ _ _ => rfl
  have HR : Hid (sdB i pi r pr s ps d pd = -1) := by show _ = _; simp [sdB, h0, h1, h2]
  have gb1 : b < w.heap.size + 1 := by omega
  have gb2 : b < w.heap.size + 1 + 1 := by omega
  have gb3 : b < w.heap.size + 1 + 1 + 1 := by omega
  have gb4 : b < w.heap.size + 1 + 1 + 1 + 1 := by omega
  have gb5 : b < w.heap.size + 1 + 1 + 1 + 1 + 1 := by omega
  have gb6 : b < w.heap.size + 1 + 1 + 1 + 1 + 1 + 1 := by omega
  go_enter Ybad.func6, Ybad.ntmps6
  go_wp2
  go_region_held3 (fun w' => w'.cell? ⟨b, 16, none⟩ = some (.int .u64 0) ∧ w'.cell? ⟨b, 17, none⟩ = some (.int .u64 (281470849515520 + i)) ∧ w'.cell? ⟨b, 18, none⟩ = some (.pointer (some za)) ∧ w'.cell? ⟨b, 19, none⟩ = some (.int .u16 pi) ∧ w'.cell? ⟨b, 24, none⟩ = some (.int .u64 0) ∧ w'.cell? ⟨b, 25, none⟩ = some (.int .u64 (281470849515520 + r)) ∧ w'.cell? ⟨b, 26, none⟩ = some (.pointer (some za)) ∧ w'.cell? ⟨b, 27, none⟩ = some (.int .u16 pr))
    (refine ⟨?_, ?_, ?_, ?_, ?_, ?_, ?_, ?_⟩ <;> go_simp)
    (fail)
  ·
      rename_i hHeld
      clear hHeld
      generalize hW : World.drew _ = W0
      have zi0 : w.heap.size + 1 + 1 < W0.heap.size := by rw [← hW]; simp [World.drew]
      have zr0 : w.heap.size + 1 + 1 + 1 < W0.heap.size := by rw [← hW]; simp [World.drew]
      have B0 : Below w.heap.size w W0 := by rw [← hW]; exact (by repeat (first | exact Below.refl _ _ | refine Below.drew ?_ | refine Below.alloc ?_ (by first | omega | (simp; done) | (simp; omega)) _))
      have s00 : W0.cell? ⟨w.heap.size, 0, none⟩ = some (.int .u64 0) := by rw [← hW]; clear hW; go_simp
      have s01 : W0.cell? ⟨w.heap.size, 1, none⟩ = some (.int .u64 (281470849515520 + s)) := by rw [← hW]; clear hW; go_simp
      have s02 : W0.cell? ⟨w.heap.size, 2, none⟩ = some (.pointer (some za)) := by rw [← hW]; clear hW; go_simp
      have s03 : W0.cell? ⟨w.heap.size, 3, none⟩ = some (.int .u16 ps) := by rw [← hW]; clear hW; go_simp
      have d00 : W0.cell? ⟨w.heap.size + 1, 0, none⟩ = some (.int .u64 0) := by rw [← hW]; clear hW; go_simp
      have d01 : W0.cell? ⟨w.heap.size + 1, 1, none⟩ = some (.int .u64 (281470849515520 + d)) := by rw [← hW]; clear hW; go_simp
      have d02 : W0.cell? ⟨w.heap.size + 1, 2, none⟩ = some (.pointer (some za)) := by rw [← hW]; clear hW; go_simp
      have d03 : W0.cell? ⟨w.heap.size + 1, 3, none⟩ = some (.int .u16 pd) := by rw [← hW]; clear hW; go_simp
      have i00 : W0.cell? ⟨w.heap.size + 1 + 1, 0, none⟩ = some (.int .u64 0) := by rw [← hW]; clear hW; go_simp
      have i01 : W0.cell? ⟨w.heap.size + 1 + 1, 1, none⟩ = some (.int .u64 (281470849515520 + i)) := by rw [← hW]; clear hW; go_simp
      have i02 : W0.cell? ⟨w.heap.size + 1 + 1, 2, none⟩ = some (.pointer (some za)) := by rw [← hW]; clear hW; go_simp
      have i03 : W0.cell? ⟨w.heap.size + 1 + 1, 3, none⟩ = some (.int .u16 pi) := by rw [← hW]; clear hW; go_simp
      have r00 : W0.cell? ⟨w.heap.size + 1 + 1 + 1, 0, none⟩ = some (.int .u64 0) := by rw [← hW]; clear hW; go_simp
      have r01 : W0.cell? ⟨w.heap.size + 1 + 1 + 1, 1, none⟩ = some (.int .u64 (281470849515520 + r)) := by rw [← hW]; clear hW; go_simp
      have r02 : W0.cell? ⟨w.heap.size + 1 + 1 + 1, 2, none⟩ = some (.pointer (some za)) := by rw [← hW]; clear hW; go_simp
      have r03 : W0.cell? ⟨w.heap.size + 1 + 1 + 1, 3, none⟩ = some (.int .u16 pr) := by rw [← hW]; clear hW; go_simp
      clear hW
      go_wp2_with fail
      refine (same_all (w.heap.size + 1 + 1) (w.heap.size + 1 + 1 + 1) i r pi pr s ps i pi za _ zi0 zr0 i00 i01 i02 i03 r00 r01 r02 r03).mono ?_
      rintro e w1 ⟨rfl, hb1⟩
      have s10 := cell_later hb1 s00
      have s11 := cell_later hb1 s01
      have s12 := cell_later hb1 s02
      have s13 := cell_later hb1 s03
      have d10 := cell_later hb1 d00
      have d11 := cell_later hb1 d01
      have d12 := cell_later hb1 d02
      have d13 := cell_later hb1 d03
      have i10 := cell_later hb1 i00
      have i11 := cell_later hb1 i01
      have i12 := cell_later hb1 i02
      have i13 := cell_later hb1 i03
      have r10 := cell_later hb1 r00
      have r11 := cell_later hb1 r01
      have r12 := cell_later hb1 r02
      have r13 := cell_later hb1 r03
      have zi1 : w.heap.size + 1 + 1 < w1.heap.size := Nat.lt_of_lt_of_le zi0 hb1.size
      have zr1 : w.heap.size + 1 + 1 + 1 < w1.heap.size := Nat.lt_of_lt_of_le zr0 hb1.size
      clear s00 s01 s02 s03 d00 d01 d02 d03 i00 i01 i02 i03 r00 r01 r02 r03
      have B1 : Below w.heap.size w w1 := B0.trans (hb1.mono B0.size)
      go_wp2_with fail
      refine (same_all (w.heap.size + 1 + 1) (w.heap.size + 1 + 1 + 1) i r pi pr s ps r pr za _ zi1 zr1 i10 i11 i12 i13 r10 r11 r12 r13).mono ?_
      rintro e w2 ⟨rfl, hb2⟩
      have s20 := cell_later hb2 s10
      have s21 := cell_later hb2 s11
      have s22 := cell_later hb2 s12
      have s23 := cell_later hb2 s13
      have d20 := cell_later hb2 d10
      have d21 := cell_later hb2 d11
      have d22 := cell_later hb2 d12
      have d23 := cell_later hb2 d13
      have i20 := cell_later hb2 i10
      have i21 := cell_later hb2 i11
      have i22 := cell_later hb2 i12
      have i23 := cell_later hb2 i13
      have r20 := cell_later hb2 r10
      have r21 := cell_later hb2 r11
      have r22 := cell_later hb2 r12
      have r23 := cell_later hb2 r13
      have zi2 : w.heap.size + 1 + 1 < w2.heap.size := Nat.lt_of_lt_of_le zi1 hb2.size
      have zr2 : w.heap.size + 1 + 1 + 1 < w2.heap.size := Nat.lt_of_lt_of_le zr1 hb2.size
      clear s10 s11 s12 s13 d10 d11 d12 d13 i10 i11 i12 i13 r10 r11 r12 r13
      have B2 : Below w.heap.size w w2 := B1.trans (hb2.mono B1.size)
      go_wp2_with fail
      refine (same_all (w.heap.size + 1 + 1) (w.heap.size + 1 + 1 + 1) i r pi pr d pd i pi za _ zi2 zr2 i20 i21 i22 i23 r20 r21 r22 r23).mono ?_
      rintro e w3 ⟨rfl, hb3⟩
      have s30 := cell_later hb3 s20
      have s31 := cell_later hb3 s21
      have s32 := cell_later hb3 s22
      have s33 := cell_later hb3 s23
      have d30 := cell_later hb3 d20
      have d31 := cell_later hb3 d21
      have d32 := cell_later hb3 d22
      have d33 := cell_later hb3 d23
      have i30 := cell_later hb3 i20
      have i31 := cell_later hb3 i21
      have i32 := cell_later hb3 i22
      have i33 := cell_later hb3 i23
      have r30 := cell_later hb3 r20
      have r31 := cell_later hb3 r21
      have r32 := cell_later hb3 r22
      have r33 := cell_later hb3 r23
      have zi3 : w.heap.size + 1 + 1 < w3.heap.size := Nat.lt_of_lt_of_le zi2 hb3.size
      have zr3 : w.heap.size + 1 + 1 + 1 < w3.heap.size := Nat.lt_of_lt_of_le zr2 hb3.size
      clear s20 s21 s22 s23 d20 d21 d22 d23 i20 i21 i22 i23 r20 r21 r22 r23
      have B3 : Below w.heap.size w w3 := B2.trans (hb3.mono B2.size)
      go_wp2
      go_ret
      exact ⟨by rw [HR.out]; rfl, B3⟩
  ·
      rename_i hHeld
      clear hHeld
      generalize hW : World.drew _ = W0
      have zi0 : w.heap.size + 1 + 1 + 1 < W0.heap.size := by rw [← hW]; simp [World.drew]
      have zr0 : w.heap.size + 1 + 1 < W0.heap.size := by rw [← hW]; simp [World.drew]
      have B0 : Below w.heap.size w W0 := by rw [← hW]; exact (by repeat (first | exact Below.refl _ _ | refine Below.drew ?_ | refine Below.alloc ?_ (by first | omega | (simp; done) | (simp; omega)) _))
      have s00 : W0.cell? ⟨w.heap.size, 0, none⟩ = some (.int .u64 0) := by rw [← hW]; clear hW; go_simp
      have s01 : W0.cell? ⟨w.heap.size, 1, none⟩ = some (.int .u64 (281470849515520 + s)) := by rw [← hW]; clear hW; go_simp
      have s02 : W0.cell? ⟨w.heap.size, 2, none⟩ = some (.pointer (some za)) := by rw [← hW]; clear hW; go_simp
      have s03 : W0.cell? ⟨w.heap.size, 3, none⟩ = some (.int .u16 ps) := by rw [← hW]; clear hW; go_simp
      have d00 : W0.cell? ⟨w.heap.size + 1, 0, none⟩ = some (.int .u64 0) := by rw [← hW]; clear hW; go_simp
      have d01 : W0.cell? ⟨w.heap.size + 1, 1, none⟩ = some (.int .u64 (281470849515520 + d)) := by rw [← hW]; clear hW; go_simp
      have d02 : W0.cell? ⟨w.heap.size + 1, 2, none⟩ = some (.pointer (some za)) := by rw [← hW]; clear hW; go_simp
      have d03 : W0.cell? ⟨w.heap.size + 1, 3, none⟩ = some (.int .u16 pd) := by rw [← hW]; clear hW; go_simp
      have i00 : W0.cell? ⟨w.heap.size + 1 + 1 + 1, 0, none⟩ = some (.int .u64 0) := by rw [← hW]; clear hW; go_simp
      have i01 : W0.cell? ⟨w.heap.size + 1 + 1 + 1, 1, none⟩ = some (.int .u64 (281470849515520 + i)) := by rw [← hW]; clear hW; go_simp
      have i02 : W0.cell? ⟨w.heap.size + 1 + 1 + 1, 2, none⟩ = some (.pointer (some za)) := by rw [← hW]; clear hW; go_simp
      have i03 : W0.cell? ⟨w.heap.size + 1 + 1 + 1, 3, none⟩ = some (.int .u16 pi) := by rw [← hW]; clear hW; go_simp
      have r00 : W0.cell? ⟨w.heap.size + 1 + 1, 0, none⟩ = some (.int .u64 0) := by rw [← hW]; clear hW; go_simp
      have r01 : W0.cell? ⟨w.heap.size + 1 + 1, 1, none⟩ = some (.int .u64 (281470849515520 + r)) := by rw [← hW]; clear hW; go_simp
      have r02 : W0.cell? ⟨w.heap.size + 1 + 1, 2, none⟩ = some (.pointer (some za)) := by rw [← hW]; clear hW; go_simp
      have r03 : W0.cell? ⟨w.heap.size + 1 + 1, 3, none⟩ = some (.int .u16 pr) := by rw [← hW]; clear hW; go_simp
      clear hW
      go_wp2_with fail
      refine (same_all (w.heap.size + 1 + 1 + 1) (w.heap.size + 1 + 1) i r pi pr s ps i pi za _ zi0 zr0 i00 i01 i02 i03 r00 r01 r02 r03).mono ?_
      rintro e w1 ⟨rfl, hb1⟩
      have s10 := cell_later hb1 s00
      have s11 := cell_later hb1 s01
      have s12 := cell_later hb1 s02
      have s13 := cell_later hb1 s03
      have d10 := cell_later hb1 d00
      have d11 := cell_later hb1 d01
      have d12 := cell_later hb1 d02
      have d13 := cell_later hb1 d03
      have i10 := cell_later hb1 i00
      have i11 := cell_later hb1 i01
      have i12 := cell_later hb1 i02
      have i13 := cell_later hb1 i03
      have r10 := cell_later hb1 r00
      have r11 := cell_later hb1 r01
      have r12 := cell_later hb1 r02
      have r13 := cell_later hb1 r03
      have zi1 : w.heap.size + 1 + 1 + 1 < w1.heap.size := Nat.lt_of_lt_of_le zi0 hb1.size
      have zr1 : w.heap.size + 1 + 1 < w1.heap.size := Nat.lt_of_lt_of_le zr0 hb1.size
      clear s00 s01 s02 s03 d00 d01 d02 d03 i00 i01 i02 i03 r00 r01 r02 r03
      have B1 : Below w.heap.size w w1 := B0.trans (hb1.mono B0.size)
      go_wp2_with fail
      refine (same_all (w.heap.size + 1 + 1 + 1) (w.heap.size + 1 + 1) i r pi pr s ps r pr za _ zi1 zr1 i10 i11 i12 i13 r10 r11 r12 r13).mono ?_
      rintro e w2 ⟨rfl, hb2⟩
      have s20 := cell_later hb2 s10
      have s21 := cell_later hb2 s11
      have s22 := cell_later hb2 s12
      have s23 := cell_later hb2 s13
      have d20 := cell_later hb2 d10
      have d21 := cell_later hb2 d11
      have d22 := cell_later hb2 d12
      have d23 := cell_later hb2 d13
      have i20 := cell_later hb2 i10
      have i21 := cell_later hb2 i11
      have i22 := cell_later hb2 i12
      have i23 := cell_later hb2 i13
      have r20 := cell_later hb2 r10
      have r21 := cell_later hb2 r11
      have r22 := cell_later hb2 r12
      have r23 := cell_later hb2 r13
      have zi2 : w.heap.size + 1 + 1 + 1 < w2.heap.size := Nat.lt_of_lt_of_le zi1 hb2.size
      have zr2 : w.heap.size + 1 + 1 < w2.heap.size := Nat.lt_of_lt_of_le zr1 hb2.size
      clear s10 s11 s12 s13 d10 d11 d12 d13 i10 i11 i12 i13 r10 r11 r12 r13
      have B2 : Below w.heap.size w w2 := B1.trans (hb2.mono B1.size)
      go_wp2_with fail
      refine (same_all (w.heap.size + 1 + 1 + 1) (w.heap.size + 1 + 1) i r pi pr d pd i pi za _ zi2 zr2 i20 i21 i22 i23 r20 r21 r22 r23).mono ?_
      rintro e w3 ⟨rfl, hb3⟩
      have s30 := cell_later hb3 s20
      have s31 := cell_later hb3 s21
      have s32 := cell_later hb3 s22
      have s33 := cell_later hb3 s23
      have d30 := cell_later hb3 d20
      have d31 := cell_later hb3 d21
      have d32 := cell_later hb3 d22
      have d33 := cell_later hb3 d23
      have i30 := cell_later hb3 i20
      have i31 := cell_later hb3 i21
      have i32 := cell_later hb3 i22
      have i33 := cell_later hb3 i23
      have r30 := cell_later hb3 r20
      have r31 := cell_later hb3 r21
      have r32 := cell_later hb3 r22
      have r33 := cell_later hb3 r23
      have zi3 : w.heap.size + 1 + 1 + 1 < w3.heap.size := Nat.lt_of_lt_of_le zi2 hb3.size
      have zr3 : w.heap.size + 1 + 1 < w3.heap.size := Nat.lt_of_lt_of_le zr2 hb3.size
      clear s20 s21 s22 s23 d20 d21 d22 d23 i20 i21 i22 i23 r20 r21 r22 r23
      have B3 : Below w.heap.size w w3 := B2.trans (hb3.mono B2.size)
      go_wp2
      go_ret
      exact ⟨by rw [HR.out]; rfl, B3⟩

set_option maxHeartbeats 4000000 in
theorem sender_f3 (b : Nat) (i pi r pr s ps d pd : Int) (za : Addr) (w : World) (hb : b < w.heap.size) (h0 : smB i r s ps i pi = false) (h1 : smB i r s ps r pr = false)
    (ci0 : w.cell? ⟨b, 16, none⟩ = some (.int .u64 0)) (ci1 : w.cell? ⟨b, 17, none⟩ = some (.int .u64 (281470849515520 + i))) (ci2 : w.cell? ⟨b, 18, none⟩ = some (.pointer (some za))) (ci3 : w.cell? ⟨b, 19, none⟩ = some (.int .u16 pi))
    (cr0 : w.cell? ⟨b, 24, none⟩ = some (.int .u64 0)) (cr1 : w.cell? ⟨b, 25, none⟩ = some (.int .u64 (281470849515520 + r))) (cr2 : w.cell? ⟨b, 26, none⟩ = some (.pointer (some za))) (cr3 : w.cell? ⟨b, 27, none⟩ = some (.int .u16 pr)) :
    Calls Ybad.prog 6 #[.pointer (some ⟨b, 0, none⟩), .agg #[.int .u64 0, .int .u64 (281470849515520 + s), .pointer (some za), .int .u16 ps], .agg #[.int .u64 0, .int .u64 (281470849515520 + d), .pointer (some za), .int .u16 pd]] w fun e w' => e = .returned (.int .i64 (sdB i pi r pr s ps d pd)) ∧ Below w.heap.size w w' := by
  have hmf : ∀ (fn : Fn) (first cap : Array Value) (w : World), (Instr.makeFunc fn first cap).run Ybad.prog w = .ok (.func fn first cap) w := fun _ _ _ _ => rfl
  have HR : Hid (sdB i pi r pr s ps d pd = -1) := by show _ = _; simp [sdB, h0, h1]
  have gb1 : b < w.heap.size + 1 := by omega
  have gb2 : b < w.heap.size + 1 + 1 := by omega
  have gb3 : b < w.heap.size + 1 + 1 + 1 := by omega
  have gb4 : b < w.heap.size + 1 + 1 + 1 + 1 := by omega
  have gb5 : b < w.heap.size + 1 + 1 + 1 + 1 + 1 := by omega
  have gb6 : b < w.heap.size + 1 + 1 + 1 + 1 + 1 + 1 := by omega
  go_enter Ybad.func6, Ybad.ntmps6
  go_wp2
  go_region_held3 (fun w' => w'.cell? ⟨b, 16, none⟩ = some (.int .u64 0) ∧ w'.cell? ⟨b, 17, none⟩ = some (.int .u64 (281470849515520 + i)) ∧ w'.cell? ⟨b, 18, none⟩ = some (.pointer (some za)) ∧ w'.cell? ⟨b, 19, none⟩ = some (.int .u16 pi) ∧ w'.cell? ⟨b, 24, none⟩ = some (.int .u64 0) ∧ w'.cell? ⟨b, 25, none⟩ = some (.int .u64 (281470849515520 + r)) ∧ w'.cell? ⟨b, 26, none⟩ = some (.pointer (some za)) ∧ w'.cell? ⟨b, 27, none⟩ = some (.int .u16 pr))
    (refine ⟨?_, ?_, ?_, ?_, ?_, ?_, ?_, ?_⟩ <;> go_simp)
    (fail)
  ·
      rename_i hHeld
      clear hHeld
      generalize hW : World.drew _ = W0
      have zi0 : w.heap.size + 1 + 1 < W0.heap.size := by rw [← hW]; simp [World.drew]
      have zr0 : w.heap.size + 1 + 1 + 1 < W0.heap.size := by rw [← hW]; simp [World.drew]
      have B0 : Below w.heap.size w W0 := by rw [← hW]; exact (by repeat (first | exact Below.refl _ _ | refine Below.drew ?_ | refine Below.alloc ?_ (by first | omega | (simp; done) | (simp; omega)) _))
      have s00 : W0.cell? ⟨w.heap.size, 0, none⟩ = some (.int .u64 0) := by rw [← hW]; clear hW; go_simp
      have s01 : W0.cell? ⟨w.heap.size, 1, none⟩ = some (.int .u64 (281470849515520 + s)) := by rw [← hW]; clear hW; go_simp
      have s02 : W0.cell? ⟨w.heap.size, 2, none⟩ = some (.pointer (some za)) := by rw [← hW]; clear hW; go_simp
      have s03 : W0.cell? ⟨w.heap.size, 3, none⟩ = some (.int .u16 ps) := by rw [← hW]; clear hW; go_simp
      have d00 : W0.cell? ⟨w.heap.size + 1, 0, none⟩ = some (.int .u64 0) := by rw [← hW]; clear hW; go_simp
      have d01 : W0.cell? ⟨w.heap.size + 1, 1, none⟩ = some (.int .u64 (281470849515520 + d)) := by rw [← hW]; clear hW; go_simp
      have d02 : W0.cell? ⟨w.heap.size + 1, 2, none⟩ = some (.pointer (some za)) := by rw [← hW]; clear hW; go_simp
      have d03 : W0.cell? ⟨w.heap.size + 1, 3, none⟩ = some (.int .u16 pd) := by rw [← hW]; clear hW; go_simp
      have i00 : W0.cell? ⟨w.heap.size + 1 + 1, 0, none⟩ = some (.int .u64 0) := by rw [← hW]; clear hW; go_simp
      have i01 : W0.cell? ⟨w.heap.size + 1 + 1, 1, none⟩ = some (.int .u64 (281470849515520 + i)) := by rw [← hW]; clear hW; go_simp
      have i02 : W0.cell? ⟨w.heap.size + 1 + 1, 2, none⟩ = some (.pointer (some za)) := by rw [← hW]; clear hW; go_simp
      have i03 : W0.cell? ⟨w.heap.size + 1 + 1, 3, none⟩ = some (.int .u16 pi) := by rw [← hW]; clear hW; go_simp
      have r00 : W0.cell? ⟨w.heap.size + 1 + 1 + 1, 0, none⟩ = some (.int .u64 0) := by rw [← hW]; clear hW; go_simp
      have r01 : W0.cell? ⟨w.heap.size + 1 + 1 + 1, 1, none⟩ = some (.int .u64 (281470849515520 + r)) := by rw [← hW]; clear hW; go_simp
      have r02 : W0.cell? ⟨w.heap.size + 1 + 1 + 1, 2, none⟩ = some (.pointer (some za)) := by rw [← hW]; clear hW; go_simp
      have r03 : W0.cell? ⟨w.heap.size + 1 + 1 + 1, 3, none⟩ = some (.int .u16 pr) := by rw [← hW]; clear hW; go_simp
      clear hW
      go_wp2_with fail
      refine (same_all (w.heap.size + 1 + 1) (w.heap.size + 1 + 1 + 1) i r pi pr s ps i pi za _ zi0 zr0 i00 i01 i02 i03 r00 r01 r02 r03).mono ?_
      rintro e w1 ⟨rfl, hb1⟩
      have s10 := cell_later hb1 s00
      have s11 := cell_later hb1 s01
      have s12 := cell_later hb1 s02
      have s13 := cell_later hb1 s03
      have d10 := cell_later hb1 d00
      have d11 := cell_later hb1 d01
      have d12 := cell_later hb1 d02
      have d13 := cell_later hb1 d03
      have i10 := cell_later hb1 i00
      have i11 := cell_later hb1 i01
      have i12 := cell_later hb1 i02
      have i13 := cell_later hb1 i03
      have r10 := cell_later hb1 r00
      have r11 := cell_later hb1 r01
      have r12 := cell_later hb1 r02
      have r13 := cell_later hb1 r03
      have zi1 : w.heap.size + 1 + 1 < w1.heap.size := Nat.lt_of_lt_of_le zi0 hb1.size
      have zr1 : w.heap.size + 1 + 1 + 1 < w1.heap.size := Nat.lt_of_lt_of_le zr0 hb1.size
      clear s00 s01 s02 s03 d00 d01 d02 d03 i00 i01 i02 i03 r00 r01 r02 r03
      have B1 : Below w.heap.size w w1 := B0.trans (hb1.mono B0.size)
      go_wp2_with fail
      refine (same_all (w.heap.size + 1 + 1) (w.heap.size + 1 + 1 + 1) i r pi pr s ps r pr za _ zi1 zr1 i10 i11 i12 i13 r10 r11 r12 r13).mono ?_
      rintro e w2 ⟨rfl, hb2⟩
      have s20 := cell_later hb2 s10
      have s21 := cell_later hb2 s11
      have s22 := cell_later hb2 s12
      have s23 := cell_later hb2 s13
      have d20 := cell_later hb2 d10
      have d21 := cell_later hb2 d11
      have d22 := cell_later hb2 d12
      have d23 := cell_later hb2 d13
      have i20 := cell_later hb2 i10
      have i21 := cell_later hb2 i11
      have i22 := cell_later hb2 i12
      have i23 := cell_later hb2 i13
      have r20 := cell_later hb2 r10
      have r21 := cell_later hb2 r11
      have r22 := cell_later hb2 r12
      have r23 := cell_later hb2 r13
      have zi2 : w.heap.size + 1 + 1 < w2.heap.size := Nat.lt_of_lt_of_le zi1 hb2.size
      have zr2 : w.heap.size + 1 + 1 + 1 < w2.heap.size := Nat.lt_of_lt_of_le zr1 hb2.size
      clear s10 s11 s12 s13 d10 d11 d12 d13 i10 i11 i12 i13 r10 r11 r12 r13
      have B2 : Below w.heap.size w w2 := B1.trans (hb2.mono B1.size)
      go_wp2
      go_ret
      exact ⟨by rw [HR.out]; rfl, B2⟩
  ·
      rename_i hHeld
      clear hHeld
      generalize hW : World.drew _ = W0
      have zi0 : w.heap.size + 1 + 1 + 1 < W0.heap.size := by rw [← hW]; simp [World.drew]
      have zr0 : w.heap.size + 1 + 1 < W0.heap.size := by rw [← hW]; simp [World.drew]
      have B0 : Below w.heap.size w W0 := by rw [← hW]; exact (by repeat (first | exact Below.refl _ _ | refine Below.drew ?_ | refine Below.alloc ?_ (by first | omega | (simp; done) | (simp; omega)) _))
      have s00 : W0.cell? ⟨w.heap.size, 0, none⟩ = some (.int .u64 0) := by rw [← hW]; clear hW; go_simp
      have s01 : W0.cell? ⟨w.heap.size, 1, none⟩ = some (.int .u64 (281470849515520 + s)) := by rw [← hW]; clear hW; go_simp
      have s02 : W0.cell? ⟨w.heap.size, 2, none⟩ = some (.pointer (some za)) := by rw [← hW]; clear hW; go_simp
      have s03 : W0.cell? ⟨w.heap.size, 3, none⟩ = some (.int .u16 ps) := by rw [← hW]; clear hW; go_simp
      have d00 : W0.cell? ⟨w.heap.size + 1, 0, none⟩ = some (.int .u64 0) := by rw [← hW]; clear hW; go_simp
      have d01 : W0.cell? ⟨w.heap.size + 1, 1, none⟩ = some (.int .u64 (281470849515520 + d)) := by rw [← hW]; clear hW; go_simp
      have d02 : W0.cell? ⟨w.heap.size + 1, 2, none⟩ = some (.pointer (some za)) := by rw [← hW]; clear hW; go_simp
      have d03 : W0.cell? ⟨w.heap.size + 1, 3, none⟩ = some (.int .u16 pd) := by rw [← hW]; clear hW; go_simp
      have i00 : W0.cell? ⟨w.heap.size + 1 + 1 + 1, 0, none⟩ = some (.int .u64 0) := by rw [← hW]; clear hW; go_simp
      have i01 : W0.cell? ⟨w.heap.size + 1 + 1 + 1, 1, none⟩ = some (.int .u64 (281470849515520 + i)) := by rw [← hW]; clear hW; go_simp
      have i02 : W0.cell? ⟨w.heap.size + 1 + 1 + 1, 2, none⟩ = some (.pointer (some za)) := by rw [← hW]; clear hW; go_simp
      have i03 : W0.cell? ⟨w.heap.size + 1 + 1 + 1, 3, none⟩ = some (.int .u16 pi) := by rw [← hW]; clear hW; go_simp
      have r00 : W0.cell? ⟨w.heap.size + 1 + 1, 0, none⟩ = some (.int .u64 0) := by rw [← hW]; clear hW; go_simp
      have r01 : W0.cell? ⟨w.heap.size + 1 + 1, 1, none⟩ = some (.int .u64 (281470849515520 + r)) := by rw [← hW]; clear hW; go_simp
      have r02 : W0.cell? ⟨w.heap.size + 1 + 1, 2, none⟩ = some (.pointer (some za)) := by rw [← hW]; clear hW; go_simp
      have r03 : W0.cell? ⟨w.heap.size + 1 + 1, 3, none⟩ = some (.int .u16 pr) := by rw [← hW]; clear hW; go_simp
      clear hW
      go_wp2_with fail
      refine (same_all (w.heap.size + 1 + 1 + 1) (w.heap.size + 1 + 1) i r pi pr s ps i pi za _ zi0 zr0 i00 i01 i02 i03 r00 r01 r02 r03).mono ?_
      rintro e w1 ⟨rfl, hb1⟩
      have s10 := cell_later hb1 s00
      have s11 := cell_later hb1 s01
      have s12 := cell_later hb1 s02
      have s13 := cell_later hb1 s03
      have d10 := cell_later hb1 d00
      have d11 := cell_later hb1 d01
      have d12 := cell_later hb1 d02
      have d13 := cell_later hb1 d03
      have i10 := cell_later hb1 i00
      have i11 := cell_later hb1 i01
      have i12 := cell_later hb1 i02
      have i13 := cell_later hb1 i03
      have r10 := cell_later hb1 r00
      have r11 := cell_later hb1 r01
      have r12 := cell_later hb1 r02
      have r13 := cell_later hb1 r03
      have zi1 : w.heap.size + 1 + 1 + 1 < w1.heap.size := Nat.lt_of_lt_of_le zi0 hb1.size
      have zr1 : w.heap.size + 1 + 1 < w1.heap.size := Nat.lt_of_lt_of_le zr0 hb1.size
      clear s00 s01 s02 s03 d00 d01 d02 d03 i00 i01 i02 i03 r00 r01 r02 r03
      have B1 : Below w.heap.size w w1 := B0.trans (hb1.mono B0.size)
      go_wp2_with fail
      refine (same_all (w.heap.size + 1 + 1 + 1) (w.heap.size + 1 + 1) i r pi pr s ps r pr za _ zi1 zr1 i10 i11 i12 i13 r10 r11 r12 r13).mono ?_
      rintro e w2 ⟨rfl, hb2⟩
      have s20 := cell_later hb2 s10
      have s21 := cell_later hb2 s11
      have s22 := cell_later hb2 s12
      have s23 := cell_later hb2 s13
      have d20 := cell_later hb2 d10
      have d21 := cell_later hb2 d11
      have d22 := cell_later hb2 d12
      have d23 := cell_later hb2 d13
      have i20 := cell_later hb2 i10
      have i21 := cell_later hb2 i11
      have i22 := cell_later hb2 i12
      have i23 := cell_later hb2 i13
      have r20 := cell_later hb2 r10
      have r21 := cell_later hb2 r11
      have r22 := cell_later hb2 r12
      have r23 := cell_later hb2 r13
      have zi2 : w.heap.size + 1 + 1 + 1 < w2.heap.size := Nat.lt_of_lt_of_le zi1 hb2.size
      have zr2 : w.heap.size + 1 + 1 < w2.heap.size := Nat.lt_of_lt_of_le zr1 hb2.size
      clear s10 s11 s12 s13 d10 d11 d12 d13 i10 i11 i12 i13 r10 r11 r12 r13
      have B2 : Below w.heap.size w w2 := B1.trans (hb2.mono B1.size)
      go_wp2
      go_ret
      exact ⟨by rw [HR.out]; rfl, B2⟩

end Go.Proofs.YbulkammyDoor
