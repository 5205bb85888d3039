/- zzs1917cbuild. -/
import Derived.Test.YbulkamrgBase
namespace Go.Proofs.Ybulkamrg
open Go.RowKit Go.Maps Go.WideMaps

set_option maxRecDepth 4000 in
set_option maxHeartbeats 2000000 in
theorem cbuild_any (a : Option Addr) (bs : List Nat) (cap : Nat) (w : World) (hb : Bytes w a bs) (hl : bs.length < 100000) :
    Calls Yba.prog 5 #[.slice a bs.length cap] w fun e w' => ∃ v, e = .returned v ∧ v ≠ .map none ∧ MapF w' v (fOf bs) ∧ Below w.heap.size w w' := by
  have Hb : Hid (Bytes w a bs) := hb
  clear hb
  have hmk : (Instr.makeMap 32 (some (Value.int IntKind.i64 (bs.length : Int)))).run Yba.prog w = .ok (.map (some w.heap.size)) (w.alloc (.map #[] 0)) := by
    simp [Instr.makeMap, run_underlying Yba.underlying32, asInt, asIntOf, Result.andThen]
  generalize hn : bs.length = n at hl hmk ⊢
  have Hn : Hid (bs.length = n) := hn
  clear hn
  go_enter Yba.func5, Yba.ntmps5
  go_wp2
  have HM : Hid ((w.alloc (.map #[] 0)).ownsMap Yba.prog 9 (plainElem (H := Unit) Yba.prog 9) w.heap.size 0 (.map [])) := World.ownsMap_made w Yba.prog 9 _
  have HB : Hid (Below w.heap.size w (w.alloc (.map #[] 0))) := (Below.refl _ _).alloc (Nat.le_refl _) _
  go_loopw [11] (fun i wr => ∃ (j : Nat) (D : DataW Unit), i = .int .i64 j ∧ j ≤ n ∧ Hid (wr.ownsMap Yba.prog 9 (plainElem Yba.prog 9) w.heap.size j D) ∧ Hid (FD D (fOf (bs.take j))) ∧ Hid (Below w.heap.size w wr)) (fun i _ => n - (intOf i).toNat)
  case atStart => exact ⟨0, _, rfl, by omega, HM, show FD _ _ by simpa [fOf] using FD.empty, HB⟩
  case round =>
    obtain ⟨j, D, rfl, hj, HM, HF, HB⟩ := hrel
    by_cases hlt : j < n
    · have j1 : (j : Int) < (n : Int) := by omega
      obtain ⟨b, hb⟩ : ∃ b, bs[j]? = some b := ⟨_, List.getElem?_eq_getElem (by rw [Hn.out]; exact hlt)⟩
      obtain ⟨hb256, x, hx, hc⟩ := Hb.out j b hb
      subst hx
      have ho := Below.cellAt HB.out hc
      obtain ⟨w1, hmu, hown1, hturn⟩ := HM.out.store (t := 32) (e := 9) keyed9 Yba.underlying32 (by unfold maxLen; omega) (key_of (b % 6)) (plainElem_string Yba.underlying9 (vs_size (b / 6 % 2)))
      have hF1 : FD (D.put (kL (b % 6)) (.lit (.string (vs (b / 6 % 2)).data.toList))) (fOf (bs.take (j + 1))) := by
        rw [List.take_add_one, hb]
        simp only [Option.toList]
        rw [fOf_snoc]
        exact HF.out.put HM.out.isMap (HM.out.tidy keyed9) (by omega) _
      have hB1 : Below w.heap.size w w1 := HB.out.trans (Below.grown hturn.grown HB.out.size (fun k e => by cases e; exact Nat.le_refl _))
      have HF1 : Hid _ := hF1
      have HB1 : Hid _ := hB1
      have HM1 : Hid _ := hown1
      clear hF1 hB1 hown1 hturn hc hb
      go_wp2_with (first | (go_at_call 11; refine (ckey_any b hb256 _).mono ?_; rintro e w' ⟨rfl, rfl⟩) | (go_at_call 10; refine (cval_any b hb256 _).mono ?_; rintro e w' ⟨rfl, rfl⟩))
      go_roundw
      case rel => exact ⟨j + 1, _, by simp, by omega, HM1, HF1, HB1⟩
      case measure => simp [intOf]; omega
    · have hje : j = n := by omega
      subst hje
      go_wp2
      go_ret
      refine ⟨_, rfl, by simp, .inr ⟨w.heap.size, _, D, rfl, HM.out, ?_⟩, HB.out⟩
      have := HF.out
      rwa [List.take_of_length_le (by rw [Hn.out]; exact Nat.le_refl _)] at this
end Go.Proofs.Ybulkamrg
