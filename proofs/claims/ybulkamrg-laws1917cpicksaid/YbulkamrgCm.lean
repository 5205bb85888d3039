/- zzs1917cmeets. -/
import Derived.Test.YbulkamrgMet
namespace Go.Proofs.Ybulkamrg
open Go.RowKit Go.Maps Go.WideMaps

theorem meets_false_of {ty : Int} {ss : List ByteArray} {fS fT : Nat → Option ByteArray} {ad : ByteArray} {t : Nat} (h : hasT ty t = false ∨ inS ad ss = true ∨ ¬ tmeet fS fT) : meets ty ss fS ad t fT = false := by
  unfold meets
  rcases h with h | h | h
  · simp [h]
  · simp [h]
  · simp [h]
theorem meets_true_of {ty : Int} {ss : List ByteArray} {fS fT : Nat → Option ByteArray} {ad : ByteArray} {t : Nat} (h1 : hasT ty t = true) (h2 : ad ∉ ss) (h3 : tmeet fS fT) : meets ty ss fS ad t fT = true := by
  unfold meets
  have : inS ad ss = false := by
    cases h : inS ad ss with
    | false => rfl
    | true => exact absurd (inS_iff.1 h) h2
  simp [h1, this, h3]

set_option maxRecDepth 20000 in
set_option maxHeartbeats 4000000 in
theorem cm_any (g o cap capB t : Nat) (ty : Int) (a aB : Option Addr) (ss : List ByteArray) (bs : List Nat) (fT : Nat → Option ByteArray) (ad : ByteArray) (vT vS : Value) (w : World)
    (hA : Strs w a ss) (hl : ss.length < 100000) (hB : Bytes w aB bs) (hlb : bs.length < 100000) (hSv : Srv w g o ad t vT fT) (hS : MapF w vS (fOf bs)) :
    Calls Yba.prog 8 #[.pointer (some ⟨g, o, none⟩), .int .u16 ty, .slice a ss.length cap, .slice aB bs.length capB, vS] w fun e w' => e = .returned (.bool (meets ty ss (fOf bs) ad t fT)) ∧ w' = w := by
  obtain ⟨s0, s1, s3, hT, ht⟩ := hSv
  have HA : Hid (Strs w a ss) := hA
  have HB : Hid (Bytes w aB bs) := hB
  have HT : Hid (MapF w vT fT) := hT
  have HS : Hid (MapF w vS (fOf bs)) := hS
  clear hA hB hT hS
  generalize hn : ss.length = n at hl ⊢
  have Hn : Hid (ss.length = n) := hn
  generalize hq : bs.length = q at hlb ⊢
  have Hq : Hid (bs.length = q) := hq
  clear hn hq
  have ht64 : (t : Int) < 6 := by omega
  go_enter Yba.func8, Yba.ntmps8
  cases h1 : hasT ty t with
  | false =>
    rw [meets_false_of (.inl h1)]
    have hb : (bits BinOp.and IntKind.u16 ty (IntKind.u16.wrap (2 ^ t)) == 0) = true := by
      unfold hasT at h1; simpa [bne] using h1
    clear h1
    go_wp2
    go_ret
    exact ⟨rfl, rfl⟩
  | true =>
    have hb : (bits BinOp.and IntKind.u16 ty (IntKind.u16.wrap (2 ^ t)) == 0) = false := by
      unfold hasT at h1; simpa [bne] using h1
    have H1 : Hid (hasT ty t = true) := h1
    clear h1
    go_wp2
    clear hb
    go_loop [30] (fun i => ∃ j : Nat, i = .int .i64 j ∧ j ≤ n ∧ Hid (ad ∉ ss.take j)) (fun i => n - (intOf i).toNat)
    case atStart => exact ⟨0, rfl, by omega, show ad ∉ ss.take 0 by simp⟩
    case round =>
      obtain ⟨j, rfl, hj, HF⟩ := hrel
      by_cases hlt : j < n
      · have j1 : (j : Int) < (n : Int) := by omega
        obtain ⟨u, hu⟩ : ∃ u, ss[j]? = some u := ⟨_, List.getElem?_eq_getElem (by rw [Hn.out]; exact hlt)⟩
        obtain ⟨x, hx, hc⟩ := HA.out j u hu
        subst hx
        have Hu : Hid _ := hu
        clear hu
        have he2 := str_eq u ad
        by_cases he : u = ad
        · rw [decide_eq_true he] at he2
          have : meets ty ss (fOf bs) ad t fT = false := meets_false_of (.inr (.inl (inS_iff.2 (he ▸ List.mem_of_getElem? Hu.out))))
          have Hmf : Hid (meets ty ss (fOf bs) ad t fT = false) := this
          clear he this
          go_wp2
          go_ret
          rw [Hmf.out]
          exact ⟨rfl, rfl⟩
        · rw [decide_eq_false he] at he2
          have He : Hid _ := he
          clear he
          go_wp2
          go_round
          case rel =>
            refine ⟨j + 1, by simp, by omega, ?_⟩
            show ad ∉ ss.take (j + 1)
            rw [List.take_add_one, Hu.out]
            simp only [Option.toList, List.mem_append, List.mem_singleton]
            rintro (h | h)
            · exact HF.out h
            · exact He.out h.symm
          case measure => simp [intOf]; omega
      · have hje : j = n := by omega
        subst hje
        have Hnin : Hid (ad ∉ ss) := by
          have := HF.out
          rwa [List.take_of_length_le (by rw [Hn.out]; exact Nat.le_refl _)] at this
        go_wp2
        go_loop [43] (fun i => ∃ p : Nat, i = .int .i64 p ∧ p ≤ q ∧ Hid (∀ b, b ∈ bs.take p → fT (b % 6) = fOf bs (b % 6))) (fun i => q - (intOf i).toNat)
        case atStart => exact ⟨0, rfl, by omega, show ∀ b, b ∈ bs.take 0 → _ from fun b h => by simp at h⟩
        case round =>
          obtain ⟨p, rfl, hp, HG⟩ := hrel
          by_cases hpl : p < q
          · have p1 : (p : Int) < (q : Int) := by omega
            obtain ⟨b, hb⟩ : ∃ b, bs[p]? = some b := ⟨_, List.getElem?_eq_getElem (by rw [Hq.out]; exact hpl)⟩
            obtain ⟨hb256, x, hx, hc⟩ := HB.out p b hb
            subst hx
            have h6 : b % 6 < 6 := by omega
            have l1 := HS.out.look1 h6 Yba.underlying46
            have l2 := HT.out.look h6 Yba.underlying32
            have hsome : ((fOf bs) (b % 6)).isSome = true := (fOf_some bs _).2 ⟨b, List.mem_of_getElem? hb, rfl⟩
            obtain ⟨v, hv⟩ := Option.isSome_iff_exists.1 hsome
            have Hv : Hid (fOf bs (b % 6) = some v) := hv
            have Hb : Hid _ := hb
            rw [hv] at l1
            simp only [got, Option.getD_some] at l1
            clear hsome hv hb
            by_cases hft : fT (b % 6) = some v
            · have Hft : Hid _ := hft
              rw [hft] at l2
              simp only [got, Option.getD_some, Option.isSome_some] at l2
              have he2 := str_eq v v
              rw [decide_eq_true rfl] at he2
              clear hft
              go_wp2_with (go_at_call 11; refine (ckey_any b hb256 _).mono ?_; rintro e w' ⟨rfl, rfl⟩)
              go_round
              case rel =>
                refine ⟨p + 1, by simp, by omega, show ∀ x, _ → _ from fun x hx => ?_⟩
                rw [List.take_add_one, Hb.out] at hx
                simp only [Option.toList, List.mem_append, List.mem_singleton] at hx
                rcases hx with hx | hx
                · exact HG.out x hx
                · subst hx; rw [Hft.out, Hv.out]
              case measure => simp [intOf]; omega
            · have hno : ¬ tmeet (fOf bs) fT := fun h => hft (by rw [h _ h6 (by rw [Hv.out]; rfl), Hv.out])
              have Hmf : Hid (meets ty ss (fOf bs) ad t fT = false) := meets_false_of (.inr (.inr hno))
              clear hno
              cases hf2 : fT (b % 6) with
              | none =>
                rw [hf2] at l2
                simp only [got, Option.getD_none, Option.isSome_none] at l2
                clear hft hf2
                go_wp2_with (go_at_call 11; refine (ckey_any b hb256 _).mono ?_; rintro e w' ⟨rfl, rfl⟩)
                go_ret
                rw [Hmf.out]
                exact ⟨rfl, rfl⟩
              | some u =>
                rw [hf2] at l2
                simp only [got, Option.getD_some, Option.isSome_some] at l2
                have he2 := str_eq u v
                rw [decide_eq_false (fun e => hft (by rw [hf2, e]))] at he2
                clear hft hf2
                go_wp2_with (go_at_call 11; refine (ckey_any b hb256 _).mono ?_; rintro e w' ⟨rfl, rfl⟩)
                go_ret
                rw [Hmf.out]
                exact ⟨rfl, rfl⟩
          · have hpe : p = q := by omega
            subst hpe
            have : meets ty ss (fOf bs) ad t fT = true := meets_true_of H1.out Hnin.out (fun i hi hs => by
              obtain ⟨b, hb, rfl⟩ := (fOf_some bs i).1 hs
              exact HG.out b (by rw [List.take_of_length_le (by rw [Hq.out]; exact Nat.le_refl _)]; exact hb))
            have Hmf : Hid (meets ty ss (fOf bs) ad t fT = true) := this
            clear this
            go_wp2
            go_ret
            rw [Hmf.out]
            exact ⟨rfl, rfl⟩
end Go.Proofs.Ybulkamrg
