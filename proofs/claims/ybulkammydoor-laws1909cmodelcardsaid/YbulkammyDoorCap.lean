import Derived.Test.YbulkammyDoorProg
import Derived.WalkKit
import Derived.WalkSpells
import Derived.WalkLawsBesides
import Derived.Laws.BitsAllLaws
import Derived.Deep.RegionHeld3
import Derived.Deep.QuietTactic
import Derived.BigQuiet
namespace Go.Proofs.YbulkammyDoor
open Go.RowKit
set_option linter.unusedVariables false
set_option linter.unusedSimpArgs false

theorem or_a : bits .or .u64 281470681743360 167772160 = 281470849515520 := by kernel_rfl
theorem or_b : bits .or .u64 281470849515520 0 = 281470849515520 := by kernel_rfl
theorem or_c (a : Int) (h0 : 0 ≤ a) (h1 : a ≤ 255) : bits .or .u64 281470849515520 a = 281470849515520 + a := by
  rw [u64_or _ a (by omega) (by omega) h0 (by omega), nat_join 8 _ _ (by decide) (by omega)]; omega

set_option maxHeartbeats 1000000 in
theorem from4_eq (a : Int) (za : Addr) (w : World) (h0 : 0 ≤ a) (h1 : a ≤ 2) (hz : w.cell? ⟨0, 0, none⟩ = some (.pointer (some za))) :
    Calls Ybad.prog 13 #[.agg #[.int .u8 10, .int .u8 0, .int .u8 0, .int .u8 a]] w fun e w' => e = .returned (.agg #[.int .u64 0, .int .u64 (281470849515520 + a), .pointer (some za)]) ∧
      w' = (w.alloc (.cells #[.int .u8 10, .int .u8 0, .int .u8 0, .int .u8 a] 51)).alloc (.cells #[.int .u64 0, .int .u64 (281470849515520 + a), .pointer (some za)] 32) := by
  have q1 := or_a
  have q2 := or_b
  have q3 := or_c a h0 (by omega)
  have hs : 0 < w.heap.size := World.block_lt_of_cell? _ _ hz
  go_enter Ybad.func13, Ybad.ntmps13
  go_wp2
  exact bodyPost_ret (v := .agg #[.int .u64 0, .int .u64 (281470849515520 + a), .pointer (some za)]) (by simp [results, Ybad.results13, go_sem]) rfl ⟨rfl, rfl⟩

set_option maxHeartbeats 1000000 in
theorem caddr_eq (k a : Int) (za : Addr) (w : World) (hk0 : 0 ≤ k) (hk1 : k ≤ 255) (ha : k % 3 = a) (hz : w.cell? ⟨0, 0, none⟩ = some (.pointer (some za))) :
    Calls Ybad.prog 12 #[.int .u8 k] w fun e w' => e = .returned (.agg #[.int .u64 0, .int .u64 (281470849515520 + a), .pointer (some za)]) ∧
      w' = ((w.alloc (.cells #[.int .u64 0, .int .u64 (281470849515520 + a), .pointer (some za)] 32)).alloc (.cells #[.int .u8 10, .int .u8 0, .int .u8 0, .int .u8 a] 51)).alloc (.cells #[.int .u64 0, .int .u64 (281470849515520 + a), .pointer (some za)] 32) := by
  have h0 : 0 ≤ a := by omega
  have h1 : a ≤ 2 := by omega
  have hs : 0 < w.heap.size := World.block_lt_of_cell? _ _ hz
  go_enter Ybad.func12, Ybad.ntmps12
  go_wp2_with (first | (go_at_call 13; refine (from4_eq a za _ h0 h1 (by go_simp)).mono ?_; rintro e w' ⟨rfl, rfl⟩))
  exact bodyPost_ret (v := .agg #[.int .u64 0, .int .u64 (281470849515520 + a), .pointer (some za)]) (by simp [results, Ybad.results12, go_sem]) rfl ⟨rfl, rfl⟩

set_option maxHeartbeats 1000000 in
theorem apfrom_eq (a p : Int) (za : Addr) (w : World) :
    Calls Ybad.prog 11 #[.agg #[.int .u64 0, .int .u64 (281470849515520 + a), .pointer (some za)], .int .u16 p] w fun e w' => e = .returned (.agg #[.int .u64 0, .int .u64 (281470849515520 + a), .pointer (some za), .int .u16 p]) ∧
      w' = (w.alloc (.cells #[.int .u64 0, .int .u64 (281470849515520 + a), .pointer (some za)] 32)).alloc (.cells #[.int .u64 0, .int .u64 (281470849515520 + a), .pointer (some za), .int .u16 p] 35) := by
  go_enter Ybad.func11, Ybad.ntmps11
  go_wp2
  exact bodyPost_ret (v := .agg #[.int .u64 0, .int .u64 (281470849515520 + a), .pointer (some za), .int .u16 p]) (by simp [results, Ybad.results11, go_sem]) rfl ⟨rfl, rfl⟩

set_option maxHeartbeats 1000000 in
theorem cap_any (k q a p : Int) (za : Addr) (w : World) (hk0 : 0 ≤ k) (hk1 : k ≤ 255) (hq0 : 0 ≤ q) (hq1 : q ≤ 255) (ha : k % 3 = a) (hp : 500 + q % 4 = p) (hz : w.cell? ⟨0, 0, none⟩ = some (.pointer (some za))) :
    Calls Ybad.prog 7 #[.int .u8 k, .int .u8 q] w fun e w' => e = .returned (.agg #[.int .u64 0, .int .u64 (281470849515520 + a), .pointer (some za), .int .u16 p]) ∧ Below w.heap.size w w' := by
  have hs : 0 < w.heap.size := World.block_lt_of_cell? _ _ hz
  go_enter Ybad.func7, Ybad.ntmps7
  go_wp2_with (first | (go_at_call 12; refine (caddr_eq k a za _ hk0 hk1 ha (by go_simp)).mono ?_; rintro e w' ⟨rfl, rfl⟩) | (go_at_call 11; refine (apfrom_eq a p za _).mono ?_; rintro e w' ⟨rfl, rfl⟩))
  exact bodyPost_ret (v := .agg #[.int .u64 0, .int .u64 (281470849515520 + a), .pointer (some za), .int .u16 p]) (by simp [results, Ybad.results7, go_sem]) rfl ⟨rfl, (by repeat (first | exact Below.refl _ _ | refine Below.alloc ?_ (by first | omega | (simp; done) | (simp; omega)) _))⟩

set_option maxHeartbeats 1000000 in
theorem exch_any (k q k' q' a p a' p' : Int) (za : Addr) (w : World) (hk0 : 0 ≤ k) (hk1 : k ≤ 255) (hq0 : 0 ≤ q) (hq1 : q ≤ 255) (ha : k % 3 = a) (hp : 500 + q % 4 = p)
    (hk0' : 0 ≤ k') (hk1' : k' ≤ 255) (hq0' : 0 ≤ q') (hq1' : q' ≤ 255) (ha' : k' % 3 = a') (hp' : 500 + q' % 4 = p') (hz : w.cell? ⟨0, 0, none⟩ = some (.pointer (some za))) :
    Calls Ybad.prog 5 #[.int .u8 k, .int .u8 q, .int .u8 k', .int .u8 q'] w fun e w' => ∃ b, e = .returned (.pointer (some ⟨b, 0, none⟩)) ∧ w.heap.size ≤ b ∧ b < w'.heap.size ∧ Below w.heap.size w w' ∧
      w'.cell? ⟨b, 16, none⟩ = some (.int .u64 0) ∧ w'.cell? ⟨b, 17, none⟩ = some (.int .u64 (281470849515520 + a)) ∧ w'.cell? ⟨b, 18, none⟩ = some (.pointer (some za)) ∧ w'.cell? ⟨b, 19, none⟩ = some (.int .u16 p) ∧
      w'.cell? ⟨b, 24, none⟩ = some (.int .u64 0) ∧ w'.cell? ⟨b, 25, none⟩ = some (.int .u64 (281470849515520 + a')) ∧ w'.cell? ⟨b, 26, none⟩ = some (.pointer (some za)) ∧ w'.cell? ⟨b, 27, none⟩ = some (.int .u16 p') := by
  have HA : Hid (k % 3 = a) := ha
  have HP : Hid (500 + q % 4 = p) := hp
  have HA' : Hid (k' % 3 = a') := ha'
  have HP' : Hid (500 + q' % 4 = p') := hp'
  clear ha hp ha' hp'
  have hs : 0 < w.heap.size := World.block_lt_of_cell? _ _ hz
  go_enter Ybad.func5, Ybad.ntmps5
  go_wp2_with fail
  refine (cap_any k q a p za _ hk0 hk1 hq0 hq1 HA.out HP.out hz).mono ?_
  rintro e w1 ⟨rfl, hb1⟩
  go_wp2_with fail
  refine (cap_any k' q' a' p' za _ hk0' hk1' hq0' hq1' HA'.out HP'.out (cell_later hb1 hz)).mono ?_
  rintro e w2 ⟨rfl, hb2⟩
  go_wp2_with fail
  go_ret
  refine ⟨w2.heap.size, rfl, ?_, by simp, ?_, ?_⟩
  · have := hb1.size; have := hb2.size; omega
  · exact (hb1.trans (hb2.mono hb1.size)).alloc (Nat.le_trans hb1.size hb2.size) _
  · simp

set_option maxHeartbeats 1000000 in
theorem addr_eq (a p : Int) (za : Addr) (w : World) :
    Calls Ybad.prog 10 #[.agg #[.int .u64 0, .int .u64 (281470849515520 + a), .pointer (some za), .int .u16 p]] w fun e w' => e = .returned (.agg #[.int .u64 0, .int .u64 (281470849515520 + a), .pointer (some za)]) ∧ w' = (w.alloc (.cells #[.int .u64 0, .int .u64 (281470849515520 + a), .pointer (some za), .int .u16 p] 35)).alloc (.cells #[.int .u64 0, .int .u64 (281470849515520 + a), .pointer (some za)] 32) := by
  go_enter Ybad.func10, Ybad.ntmps10
  go_wp2
  exact bodyPost_ret (v := .agg #[.int .u64 0, .int .u64 (281470849515520 + a), .pointer (some za)]) (by simp [results, Ybad.results10, go_sem]) rfl ⟨rfl, rfl⟩

end Go.Proofs.YbulkammyDoor
