import Derived.Test.YbulkammyHdr
namespace Go.Proofs.Ybulkammy
open Go.RowKit
set_option linter.unusedVariables false
set_option linter.unusedSimpArgs false

theorem big_walk (a0 : Option Addr) (len cap : Nat) (p t : Int) (w : World) (h : 1024 < (len : Int)) :
    Calls Yba.prog 3 #[.slice a0 len cap, .int .u8 p, .int .u16 t] w fun e w' => e = .returned (.bool true) ∧ Below w.heap.size w w' := by
  go_enter Yba.func3, Yba.ntmps3
  go_wp2
  go_ret
  exact ⟨rfl, Below.refl _ _⟩

/-- the octet that the padded header holds -/
def pad (d : Nat → Int) (len : Nat) : Nat → Int := fun i => if i < len then d i else 0

theorem pad_oct {d : Nat → Int} (h : Oct d) (len : Nat) : Oct (pad d len) := by
  intro i; have := h i; unfold pad; split <;> omega

theorem cks_bones (z : Nat → Int) (hz : Oct z) (p t : Int) (k : Nat) (hp0 : 0 ≤ p) (hp1 : p ≤ 255) (ht0 : 0 ≤ t) (ht1 : t ≤ 65535) :
    65535 - oc (bs (put z p t (cks z p t k)) (10 + 2 * k)) = cks z p t k ∧ 0 ≤ cks z p t k ∧ cks z p t k ≤ 65535 ∧ 0 ≤ oc (bs (put z p t (cks z p t k)) (10 + 2 * k)) ∧ oc (bs (put z p t (cks z p t k)) (10 + 2 * k)) ≤ 65535 := by
  have h0 : Oct (put z p t 0) := put_oct hz ⟨hp0, hp1⟩ ⟨ht0, ht1⟩ ⟨by omega, by omega⟩
  have hb := oc_bd _ (hs_bd h0 k).1
  have hc : 0 ≤ cks z p t k ∧ cks z p t k ≤ 65535 := by unfold cks; omega
  have h1 : Oct (put z p t (cks z p t k)) := put_oct hz ⟨hp0, hp1⟩ ⟨ht0, ht1⟩ hc
  have e : oc (bs (put z p t (cks z p t k)) (10 + 2 * k)) = oc (hs (put z p t 0) k) := by
    rw [← oc_eqv (hs_bs h1 k), hs_put, hs_put]
  refine ⟨?_, hc.1, hc.2, ?_, ?_⟩
  · rw [e]; rfl
  · rw [e]; exact hb.1
  · rw [e]; exact hb.2

theorem Addr.add_zero_none (H i : Nat) : (⟨H, 0, none⟩ : Addr).add i = ⟨H, i, none⟩ := by
  cases i with
  | zero => rfl
  | succ i => simp [Addr.add]

theorem copied_own (w : World) (H n : Nat) (z : Nat → Int) (ty : TypeId) (h : ∀ i, i < n → w.cell? ⟨H, i, none⟩ = some (.int .u8 (z i))) :
    (Builtin.copy_ #[22, 22] ty #[.slice (some ⟨w.heap.size, 0, none⟩) n n, .slice (some ⟨H, 0, none⟩) n n]).run Yba.prog (w.alloc (.cells (madeCells #[.int .u8 0] n) 5)) =
      .ok (goInt n) ((w.alloc (.cells (madeCells #[.int .u8 0] n) 5)).setCells w.heap.size 0 (octs z n)) :=
  copied_run w n (some ⟨H, 0, none⟩) n n z (Nat.le_refl _) ty (by simp) (fun x hx i hi => by
    obtain rfl := Option.some.inj hx
    have e : (⟨H, 0, none⟩ : Addr).add i = ⟨H, i, none⟩ := Addr.add_zero_none H i
    rw [e]; exact h i hi)

set_option maxHeartbeats 4000000 in
theorem law_walk (a0 : Option Addr) (len cap n : Nat) (d : Nat → Int) (p t : Int) (w : World) (hlen : len ≤ 1024) (hn : n = if len < 20 then 20 else len) (hd : Oct d)
    (hp0 : 0 ≤ p) (hp1 : p ≤ 255) (ht0 : 0 ≤ t) (ht1 : t ≤ 65535)
    (hnil : a0 = none → len = 0) (hc : ∀ x, a0 = some x → ∀ i, i < len → w.cell? (x.add i) = some (.int .u8 (d i))) :
    Calls Yba.prog 3 #[.slice a0 len cap, .int .u8 p, .int .u16 t] w fun e w' => e = .returned (.bool true) ∧ Below w.heap.size w w' := by
  have n20 : 20 ≤ n := by split at hn <;> omega
  have n1024 : n ≤ 1024 := by split at hn <;> omega
  have hln : len ≤ n := by split at hn <;> omega
  have hz : Oct (pad d len) := pad_oct hd len
  have HHD : Hid (Calls Yba.prog 5 #[.slice a0 len cap] w fun e w' => e = .returned (.slice (some ⟨w.heap.size, 0, none⟩) n n) ∧ w' = (w.alloc (.cells (madeCells #[.int .u8 0] n) 5)).setCells w.heap.size 0 (octs d len)) := hdr_any a0 len cap n d w hlen hn hnil hc
  have hI : ¬ (1024 : Int) < (len : Int) := by omega
  have hmk := fun w => run_make_row' (P := Yba.prog) 22 5 (.int .u8 0) 1 Yba.underlying22 info5 rfl .i64 .i64 n (by omega) (by omega) w
  clear hc hnil hn
  -- the world behind the padded header
  have z1 : ((w.alloc (.cells (madeCells #[.int .u8 0] n) 5)).setCells w.heap.size 0 (octs d len)).heap.size = w.heap.size + 1 := by rw [size_setCells]; simp
  have HC1 : Hid (∀ i, i < n → ((w.alloc (.cells (madeCells #[.int .u8 0] n) 5)).setCells w.heap.size 0 (octs d len)).cell? ⟨w.heap.size, i, none⟩ = some (.int .u8 (pad d len i))) := fun i hi => copied w n len d hln i hi
  have HF1 : Hid (∀ i, i < n → ((w.alloc (.cells (madeCells #[.int .u8 0] n) 5)).setCells w.heap.size 0 (octs d len)).frozen? ⟨w.heap.size, i, none⟩ = false) := fun i hi => copied_frozen w n len d i
  have B1 : Below w.heap.size w ((w.alloc (.cells (madeCells #[.int .u8 0] n) 5)).setCells w.heap.size 0 (octs d len)) :=
    below_setCells (Below.refl _ w) w.heap.size (Nat.le_refl _) _ _ _ ((Below.refl _ _).alloc (Nat.le_refl _) _)
  generalize (w.alloc (.cells (madeCells #[.int .u8 0] n) 5)).setCells w.heap.size 0 (octs d len) = w1 at HHD z1 HC1 HF1 B1
  generalize pad d len = z at hz HC1
  have HZ : Hid (Oct z) := hz
  clear hz hd
  go_enter Yba.func3, Yba.ntmps3
  go_wp2_with fail
  refine Calls.mono HHD.out ?_
  rintro e w' ⟨rfl, rfl⟩
  have HR0 := copied_own w' w.heap.size n z 3 HC1.out
  have HC2 : Hid (∀ i, i < n → ((w'.alloc (.cells (madeCells #[.int .u8 0] n) 5)).setCells w'.heap.size 0 (octs z n)).cell? ⟨w.heap.size, i, none⟩ = some (.int .u8 (z i))) := fun i hi => by
    rw [World.cell?_setCells_out _ _ _ _ _ (fun e _ => absurd e (by simp; omega)), World.cell?_alloc_past _ _ _ (by omega)]; exact HC1.out i hi
  have HO2 : Hid (∀ i, i < n → ((w'.alloc (.cells (madeCells #[.int .u8 0] n) 5)).setCells w'.heap.size 0 (octs z n)).cell? ⟨w.heap.size + 1, i, none⟩ = some (.int .u8 (z i))) := fun i hi => by
    have := copied w' n n z (Nat.le_refl _) i hi
    rw [if_pos hi, z1] at this
    rw [z1]; exact this
  have HF2 : Hid (∀ i, i < n → ((w'.alloc (.cells (madeCells #[.int .u8 0] n) 5)).setCells w'.heap.size 0 (octs z n)).frozen? ⟨w.heap.size, i, none⟩ = false) := fun i hi => by
    rw [World.frozen?_setCells, World.frozen?_alloc_past _ _ _ (by omega)]; exact HF1.out i hi
  have z2 : ((w'.alloc (.cells (madeCells #[.int .u8 0] n) 5)).setCells w'.heap.size 0 (octs z n)).heap.size = w.heap.size + 1 + 1 := by rw [size_setCells]; simp [z1]
  have B2 : Below w.heap.size w ((w'.alloc (.cells (madeCells #[.int .u8 0] n) 5)).setCells w'.heap.size 0 (octs z n)) :=
    below_setCells (Below.refl _ w) w'.heap.size (by omega) _ _ _ (B1.alloc (by omega) _)
  rw [z1] at HR0 HC2 HO2 HF2 z2 B2
  have HR : Hid (_ = _) := HR0
  clear HR0 HC1 HF1 HHD B1
  go_wp2_with (first | (refine Lib.wpList_copy_run _ rfl _ _ 22 22 rfl _ _ rfl rfl HR.out ?_))
  clear HR
  generalize (w'.alloc (.cells (madeCells #[.int .u8 0] n) 5)).setCells (w.heap.size + 1) 0 (octs z n) = w2 at *
  clear z1
  clear w'
  have HK : Hid _ := cks_bones z HZ.out p t ((n - 20) / 4) hp0 hp1 ht0 ht1
  refine Calls.mono (rew_any w.heap.size n z p t w2 HZ.out n20 n1024 (by omega) hp0 hp1 ht0 ht1 HC2.out HF2.out) ?_
  rintro e w3 ⟨rfl, hc3, hf3, hbut⟩
  have HO3 : Hid (∀ i, i < n → w3.cell? ⟨w.heap.size + 1, i, none⟩ = some (.int .u8 (z i))) := fun i hi => by
    rw [hbut.cell (p := ⟨w.heap.size + 1, i, none⟩) (by simp; omega) (by simp)]; exact HO2.out i hi
  have B3 : Below w.heap.size w w3 := B2.trans (hbut.below (Nat.le_refl _) (by omega))
  generalize hck : cks z p t ((n - 20) / 4) = ck at hc3 HK
  have HC3 : Hid (∀ i, i < n → w3.cell? ⟨w.heap.size, i, none⟩ = some (.int .u8 (put z p t ck i))) := hc3
  have hg3 : w.heap.size < w3.heap.size := by have := hbut.size; omega
  clear hc3 hf3 hbut HC2 HO2 HF2 B2 z2 hck
  obtain ⟨HK1, c0, c1, o0, o1⟩ := HK.out
  clear HK
  have k9 : w3.cell? ⟨w.heap.size, 9, none⟩ = some (.int .u8 p) := HC3.out 9 (by omega)
  have k2 : w3.cell? ⟨w.heap.size, 2, none⟩ = some (.int .u8 (t / 256)) := HC3.out 2 (by omega)
  have k3 : w3.cell? ⟨w.heap.size, 3, none⟩ = some (.int .u8 (t % 256)) := HC3.out 3 (by omega)
  have k10 : w3.cell? ⟨w.heap.size, 10, none⟩ = some (.int .u8 (ck / 256)) := HC3.out 10 (by omega)
  have k11 : w3.cell? ⟨w.heap.size, 11, none⟩ = some (.int .u8 (ck % 256)) := HC3.out 11 (by omega)
  have HOC : Hid (Oct (put z p t ck)) := put_oct HZ.out ⟨hp0, hp1⟩ ⟨ht0, ht1⟩ ⟨c0, c1⟩
  generalize ho : oc (bs (put z p t ck) (10 + 2 * ((n - 20) / 4))) = oo at HK1 o0 o1
  have hx := xor16 oo o0 o1
  rw [HK1] at hx
  have HONES : Hid (Calls Yba.prog 7 #[.slice (some ⟨w.heap.size, 0, none⟩) n n] w3 fun e w' => e = .returned (.int .u16 oo) ∧ ∃ q, w' = w3.drewN q) := by
    rw [← ho]; exact ones_any w.heap.size n _ w3 HOC.out n20 n1024 hg3 HC3.out
  clear ho HK1 HOC
  have i2 : (2 : Int) < (n : Int) := by omega
  have i3 : (3 : Int) < (n : Int) := by omega
  have i9 : (9 : Int) < (n : Int) := by omega
  have i10 : (10 : Int) < (n : Int) := by omega
  have i11 : (11 : Int) < (n : Int) := by omega
  go_wp2_with fail
  refine Calls.mono HONES.out ?_
  rintro e w4 ⟨rfl, q, rfl⟩
  go_wp2
  clear k2 k3 k9 k10 k11 i2 i3 i9 i10 i11 HONES hx
  go_loopw [10] (fun i w' => ∃ (k q : Nat), i = .int .i64 (k : Int) ∧ k ≤ n ∧ w' = w3.drewN q) (fun i _ => n - (intOf i).toNat)
  case atStart => exact ⟨0, q, rfl, by omega, rfl⟩
  case round =>
    obtain ⟨k, q', rfl, hk, rfl⟩ := hrel
    by_cases hlt : k < n
    · have j1 : (k : Int) < (n : Int) := by omega
      by_cases e2 : k = 2
      · subst e2
        go_wp2
        go_roundw
        case rel => exact ⟨3, q', by simp, by omega, rfl⟩
        case measure => simp [intOf]; omega
      by_cases e3 : k = 3
      · subst e3
        go_wp2
        go_roundw
        case rel => exact ⟨4, q', by simp, by omega, rfl⟩
        case measure => simp [intOf]; omega
      by_cases e9 : k = 9
      · subst e9
        go_wp2
        go_roundw
        case rel => exact ⟨10, q', by simp, by omega, rfl⟩
        case measure => simp [intOf]; omega
      by_cases e10 : k = 10
      · subst e10
        go_wp2
        go_roundw
        case rel => exact ⟨11, q', by simp, by omega, rfl⟩
        case measure => simp [intOf]; omega
      by_cases e11 : k = 11
      · subst e11
        go_wp2
        go_roundw
        case rel => exact ⟨12, q', by simp, by omega, rfl⟩
        case measure => simp [intOf]; omega
      have kc : w3.cell? ⟨w.heap.size, k, none⟩ = some (.int .u8 (z k)) := by
        rw [HC3.out k hlt]; unfold put; rw [if_neg e9, if_neg e2, if_neg e3, if_neg e10, if_neg e11]
      have ko := HO3.out k hlt
      have f2 : ((k : Int) == 2) = false := by simp; omega
      have f3 : ((k : Int) == 3) = false := by simp; omega
      have f9 : ((k : Int) == 9) = false := by simp; omega
      have f10 : ((k : Int) == 10) = false := by simp; omega
      have f11 : ((k : Int) == 11) = false := by simp; omega
      clear e2 e3 e9 e10 e11
      go_wp2
      go_quiet (fail)
      go_wp2
      go_roundw
      case rel => exact ⟨k + 1, _, by go_num, by omega, rfl⟩
      case measure => simp [intOf]; omega
    · go_wp2
      go_ret
      exact ⟨rfl, below_drewN B3 _⟩

end Go.Proofs.Ybulkammy
