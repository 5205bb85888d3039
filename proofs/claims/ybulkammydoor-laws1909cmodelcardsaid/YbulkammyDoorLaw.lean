import Derived.Test.YbulkammyDoorSender
import Derived.Test.YbulkammyDoorMd
namespace Go.Proofs.YbulkammyDoor
open Go.RowKit
set_option linter.unusedVariables false
set_option linter.unusedSimpArgs false

theorem sender_all (b : Nat) (i pi r pr s ps d pd : Int) (za : Addr) (w : World) (hb : b < w.heap.size)
    (ci0 : w.cell? ⟨b, 16, none⟩ = some (.int .u64 0)) (ci1 : w.cell? ⟨b, 17, none⟩ = some (.int .u64 (281470849515520 + i))) (ci2 : w.cell? ⟨b, 18, none⟩ = some (.pointer (some za))) (ci3 : w.cell? ⟨b, 19, none⟩ = some (.int .u16 pi))
    (cr0 : w.cell? ⟨b, 24, none⟩ = some (.int .u64 0)) (cr1 : w.cell? ⟨b, 25, none⟩ = some (.int .u64 (281470849515520 + r))) (cr2 : w.cell? ⟨b, 26, none⟩ = some (.pointer (some za))) (cr3 : w.cell? ⟨b, 27, none⟩ = some (.int .u16 pr)) :
    Calls Ybad.prog 6 #[.pointer (some ⟨b, 0, none⟩), .agg #[.int .u64 0, .int .u64 (281470849515520 + s), .pointer (some za), .int .u16 ps], .agg #[.int .u64 0, .int .u64 (281470849515520 + d), .pointer (some za), .int .u16 pd]] w fun e w' => e = .returned (.int .i64 (sdB i pi r pr s ps d pd)) ∧ Below w.heap.size w w' := by
  cases h1 : smB i r s ps i pi with
  | true =>
    cases h2 : smB i r d pd r pr with
    | true => exact sender_i b i pi r pr s ps d pd za w hb h1 h2 ci0 ci1 ci2 ci3 cr0 cr1 cr2 cr3
    | false =>
      cases h3 : smB i r s ps r pr with
      | true =>
        cases h4 : smB i r d pd i pi with
        | true => exact sender_tf1 b i pi r pr s ps d pd za w hb h1 h2 h3 h4 ci0 ci1 ci2 ci3 cr0 cr1 cr2 cr3
        | false => exact sender_tf2 b i pi r pr s ps d pd za w hb h1 h2 h3 h4 ci0 ci1 ci2 ci3 cr0 cr1 cr2 cr3
      | false => exact sender_tf3 b i pi r pr s ps d pd za w hb h1 h2 h3 ci0 ci1 ci2 ci3 cr0 cr1 cr2 cr3
  | false =>
    cases h3 : smB i r s ps r pr with
    | true =>
      cases h4 : smB i r d pd i pi with
      | true => exact sender_f1 b i pi r pr s ps d pd za w hb h1 h3 h4 ci0 ci1 ci2 ci3 cr0 cr1 cr2 cr3
      | false => exact sender_f2 b i pi r pr s ps d pd za w hb h1 h3 h4 ci0 ci1 ci2 ci3 cr0 cr1 cr2 cr3
    | false => exact sender_f3 b i pi r pr s ps d pd za w hb h1 h3 ci0 ci1 ci2 ci3 cr0 cr1 cr2 cr3

theorem md_sm (ia ra a ap b bp : Int) : smB (ia % 3) (ra % 3) (a % 3) (500 + ap % 4) (b % 3) (500 + bp % 4) = mdB (ia % 3 == ra % 3) a ap b bp := by
  unfold smB mdB
  by_cases h1 : ia % 3 = ra % 3 <;> by_cases h2 : a % 3 = b % 3 <;> simp [h1, h2]
  rw [Bool.eq_iff_iff]; simp only [beq_iff_eq]; omega

def pickI (a b c d : Bool) : Int := if a = true ∧ b = true then 0 else if c = true ∧ d = true then 1 else -1

theorem sd_md (ia ip ra rp sa sp da dp : Int) : sdB (ia % 3) (500 + ip % 4) (ra % 3) (500 + rp % 4) (sa % 3) (500 + sp % 4) (da % 3) (500 + dp % 4) =
    pickI (mdB (ia % 3 == ra % 3) sa sp ia ip) (mdB (ia % 3 == ra % 3) da dp ra rp) (mdB (ia % 3 == ra % 3) sa sp ra rp) (mdB (ia % 3 == ra % 3) da dp ia ip) := by
  simp only [sdB, pickI, md_sm]

set_option maxHeartbeats 4000000 in
theorem law_walk (ia ip ra rp sa sp da dp : Int) (za : Addr) (w : World) (ia0 : 0 ≤ ia) (ia1 : ia ≤ 255) (ip0 : 0 ≤ ip) (ip1 : ip ≤ 255) (ra0 : 0 ≤ ra) (ra1 : ra ≤ 255) (rp0 : 0 ≤ rp) (rp1 : rp ≤ 255) (sa0 : 0 ≤ sa) (sa1 : sa ≤ 255) (sp0 : 0 ≤ sp) (sp1 : sp ≤ 255) (da0 : 0 ≤ da) (da1 : da ≤ 255) (dp0 : 0 ≤ dp) (dp1 : dp ≤ 255)
    (hz : w.cell? ⟨0, 0, none⟩ = some (.pointer (some za))) :
    Calls Ybad.prog 3 #[.int .u8 ia, .int .u8 ip, .int .u8 ra, .int .u8 rp, .int .u8 sa, .int .u8 sp, .int .u8 da, .int .u8 dp] w fun e w' => e = .returned (.bool true) ∧ Below w.heap.size w w' := by
  have hmf : ∀ (fn : Fn) (first cap : Array Value) (w : World), (Instr.makeFunc fn first cap).run Ybad.prog w = .ok (.func fn first cap) w := fun _ _ _ _ => rfl
  go_enter Ybad.func3, Ybad.ntmps3
  go_wp2_with fail
  refine (exch_any ia ip ra rp _ _ _ _ za _ ia0 ia1 ip0 ip1 rfl rfl ra0 ra1 rp0 rp1 rfl rfl hz).mono ?_
  rintro e w1 ⟨b, rfl, hb0, hb1, B1, c0, c1, c2, c3, d0, d1, d2, d3⟩
  go_wp2_with fail
  refine (cap_any sa sp _ _ za _ sa0 sa1 sp0 sp1 rfl rfl (cell_later B1 hz)).mono ?_
  rintro e w2 ⟨rfl, B2⟩
  have B2' : Below w.heap.size w w2 := B1.trans (B2.mono B1.size)
  go_wp2_with fail
  refine (cap_any da dp _ _ za _ da0 da1 dp0 dp1 rfl rfl (cell_later B2' hz)).mono ?_
  rintro e w3 ⟨rfl, B3⟩
  have B13 : Below w1.heap.size w1 w3 := B2.trans (B3.mono B2.size)
  have B3' : Below w.heap.size w w3 := B2'.trans (B3.mono B2'.size)
  go_wp2_with fail
  refine (sender_all b _ _ _ _ _ _ _ _ za _ (Nat.lt_of_lt_of_le hb1 B13.size) (cell_later B13 c0) (cell_later B13 c1) (cell_later B13 c2) (cell_later B13 c3) (cell_later B13 d0) (cell_later B13 d1) (cell_later B13 d2) (cell_later B13 d3)).mono ?_
  rw [sd_md]
  rintro e w4 ⟨rfl, B4⟩
  have B4' : Below w.heap.size w w4 := B3'.trans (B4.mono B3'.size)
  have hsz : w.heap.size ≤ w4.heap.size := B4'.size
  clear c0 c1 c2 c3 d0 d1 d2 d3 B1 B2 B3 B13 B2' B3' B4 hb0 hb1
  have M : Hid (∀ (a ap b bp : Int) (W : World), 0 ≤ a → a ≤ 255 → 0 ≤ ap → ap ≤ 255 → 0 ≤ b → b ≤ 255 → 0 ≤ bp → bp ≤ 255 → W.cell? ⟨w4.heap.size, 0, none⟩ = some (.bool (ia % 3 == ra % 3)) →
    Calls Ybad.prog 8 #[.int .u8 a, .int .u8 ap, .int .u8 b, .int .u8 bp, .pointer (some ⟨w4.heap.size, 0, none⟩)] W fun e w' => e = .returned (.bool (mdB (ia % 3 == ra % 3) a ap b bp)) ∧ w' = W) :=
    fun a ap b bp W h1 h2 h3 h4 h5 h6 h7 h8 hc => md_any _ _ a ap b bp W h1 h2 h3 h4 h5 h6 h7 h8 hc
  generalize hG : pickI (mdB (ia % 3 == ra % 3) sa sp ia ip) (mdB (ia % 3 == ra % 3) da dp ra rp) (mdB (ia % 3 == ra % 3) sa sp ra rp) (mdB (ia % 3 == ra % 3) da dp ia ip) = G
  have HG : Hid (pickI (mdB (ia % 3 == ra % 3) sa sp ia ip) (mdB (ia % 3 == ra % 3) da dp ra rp) (mdB (ia % 3 == ra % 3) sa sp ra rp) (mdB (ia % 3 == ra % 3) da dp ia ip) = G) := hG
  clear hG
  cases h1 : mdB (ia % 3 == ra % 3) sa sp ia ip with
  | true =>
    cases h2 : mdB (ia % 3 == ra % 3) da dp ra rp with
    | true =>
      have hv : G = 0 := by rw [← HG.out]; simp [pickI, h1, h2]
      subst hv
      go_wp2_with fail
      refine (M.out sa sp ia ip _ sa0 sa1 sp0 sp1 ia0 ia1 ip0 ip1 (by go_simp)).mono ?_
      rintro e w' ⟨rfl, rfl⟩
      go_wp2_with fail
      refine (M.out da dp ra rp _ da0 da1 dp0 dp1 ra0 ra1 rp0 rp1 (by go_simp)).mono ?_
      rintro e w' ⟨rfl, rfl⟩
      go_wp2
      go_ret
      exact ⟨rfl, B4'.alloc (by omega) _⟩
    | false =>
      cases h3 : mdB (ia % 3 == ra % 3) sa sp ra rp with
      | true =>
        cases h4 : mdB (ia % 3 == ra % 3) da dp ia ip with
        | true =>
          have hv : G = 1 := by rw [← HG.out]; simp [pickI, h1, h2, h3, h4]
          subst hv
          go_wp2_with fail
          refine (M.out sa sp ia ip _ sa0 sa1 sp0 sp1 ia0 ia1 ip0 ip1 (by go_simp)).mono ?_
          rintro e w' ⟨rfl, rfl⟩
          go_wp2_with fail
          refine (M.out da dp ra rp _ da0 da1 dp0 dp1 ra0 ra1 rp0 rp1 (by go_simp)).mono ?_
          rintro e w' ⟨rfl, rfl⟩
          go_wp2_with fail
          refine (M.out sa sp ra rp _ sa0 sa1 sp0 sp1 ra0 ra1 rp0 rp1 (by go_simp)).mono ?_
          rintro e w' ⟨rfl, rfl⟩
          go_wp2_with fail
          refine (M.out da dp ia ip _ da0 da1 dp0 dp1 ia0 ia1 ip0 ip1 (by go_simp)).mono ?_
          rintro e w' ⟨rfl, rfl⟩
          go_wp2
          go_ret
          exact ⟨rfl, B4'.alloc (by omega) _⟩
        | false =>
          have hv : G = -1 := by rw [← HG.out]; simp [pickI, h1, h2, h3, h4]
          subst hv
          go_wp2_with fail
          refine (M.out sa sp ia ip _ sa0 sa1 sp0 sp1 ia0 ia1 ip0 ip1 (by go_simp)).mono ?_
          rintro e w' ⟨rfl, rfl⟩
          go_wp2_with fail
          refine (M.out da dp ra rp _ da0 da1 dp0 dp1 ra0 ra1 rp0 rp1 (by go_simp)).mono ?_
          rintro e w' ⟨rfl, rfl⟩
          go_wp2_with fail
          refine (M.out sa sp ra rp _ sa0 sa1 sp0 sp1 ra0 ra1 rp0 rp1 (by go_simp)).mono ?_
          rintro e w' ⟨rfl, rfl⟩
          go_wp2_with fail
          refine (M.out da dp ia ip _ da0 da1 dp0 dp1 ia0 ia1 ip0 ip1 (by go_simp)).mono ?_
          rintro e w' ⟨rfl, rfl⟩
          go_wp2
          go_ret
          exact ⟨rfl, B4'.alloc (by omega) _⟩
      | false =>
        have hv : G = -1 := by rw [← HG.out]; simp [pickI, h1, h2, h3]
        subst hv
        go_wp2_with fail
        refine (M.out sa sp ia ip _ sa0 sa1 sp0 sp1 ia0 ia1 ip0 ip1 (by go_simp)).mono ?_
        rintro e w' ⟨rfl, rfl⟩
        go_wp2_with fail
        refine (M.out da dp ra rp _ da0 da1 dp0 dp1 ra0 ra1 rp0 rp1 (by go_simp)).mono ?_
        rintro e w' ⟨rfl, rfl⟩
        go_wp2_with fail
        refine (M.out sa sp ra rp _ sa0 sa1 sp0 sp1 ra0 ra1 rp0 rp1 (by go_simp)).mono ?_
        rintro e w' ⟨rfl, rfl⟩
        go_wp2
        go_ret
        exact ⟨rfl, B4'.alloc (by omega) _⟩
  | false =>
    cases h3 : mdB (ia % 3 == ra % 3) sa sp ra rp with
    | true =>
      cases h4 : mdB (ia % 3 == ra % 3) da dp ia ip with
      | true =>
        have hv : G = 1 := by rw [← HG.out]; simp [pickI, h1, h3, h4]
        subst hv
        go_wp2_with fail
        refine (M.out sa sp ia ip _ sa0 sa1 sp0 sp1 ia0 ia1 ip0 ip1 (by go_simp)).mono ?_
        rintro e w' ⟨rfl, rfl⟩
        go_wp2_with fail
        refine (M.out sa sp ra rp _ sa0 sa1 sp0 sp1 ra0 ra1 rp0 rp1 (by go_simp)).mono ?_
        rintro e w' ⟨rfl, rfl⟩
        go_wp2_with fail
        refine (M.out da dp ia ip _ da0 da1 dp0 dp1 ia0 ia1 ip0 ip1 (by go_simp)).mono ?_
        rintro e w' ⟨rfl, rfl⟩
        go_wp2
        go_ret
        exact ⟨rfl, B4'.alloc (by omega) _⟩
      | false =>
        have hv : G = -1 := by rw [← HG.out]; simp [pickI, h1, h3, h4]
        subst hv
        go_wp2_with fail
        refine (M.out sa sp ia ip _ sa0 sa1 sp0 sp1 ia0 ia1 ip0 ip1 (by go_simp)).mono ?_
        rintro e w' ⟨rfl, rfl⟩
        go_wp2_with fail
        refine (M.out sa sp ra rp _ sa0 sa1 sp0 sp1 ra0 ra1 rp0 rp1 (by go_simp)).mono ?_
        rintro e w' ⟨rfl, rfl⟩
        go_wp2_with fail
        refine (M.out da dp ia ip _ da0 da1 dp0 dp1 ia0 ia1 ip0 ip1 (by go_simp)).mono ?_
        rintro e w' ⟨rfl, rfl⟩
        go_wp2
        go_ret
        exact ⟨rfl, B4'.alloc (by omega) _⟩
    | false =>
      have hv : G = -1 := by rw [← HG.out]; simp [pickI, h1, h3]
      subst hv
      go_wp2_with fail
      refine (M.out sa sp ia ip _ sa0 sa1 sp0 sp1 ia0 ia1 ip0 ip1 (by go_simp)).mono ?_
      rintro e w' ⟨rfl, rfl⟩
      go_wp2_with fail
      refine (M.out sa sp ra rp _ sa0 sa1 sp0 sp1 ra0 ra1 rp0 rp1 (by go_simp)).mono ?_
      rintro e w' ⟨rfl, rfl⟩
      go_wp2
      go_ret
      exact ⟨rfl, B4'.alloc (by omega) _⟩

end Go.Proofs.YbulkammyDoor
