/-
  THE TOLD AND TIED CARD OF 'lock.LawS1913BNames': the walks (YbulkampcFmtWalk.lean) come to no call of fmt's.
-/
import Derived.Test.YbulkampcFmtRows
import Derived.Test.YbulkampcFmtCards
import Derived.Test.YbulkampcFmtTie
import Derived.Test.YbulkampcFmtWalk
import Derived.ProofKit
import Derived.LaidMore
import Derived.OpenShut
import Derived.OpenVars
import Derived.Stop.Joined
import Derived.Stop.JoinedAt
import Derived.Stop.JoinedTold
import Derived.SevenTiedAt
namespace Go.Proofs.YbulkampcFmt
open Go.ChangeShapes Go.WideShapes Go.ChangeAt Go.RowKit
open Go.Extern.Stop Go.Stop Go.Extern
set_option linter.unusedVariables false

theorem own : ownKnob Ybaf.prog.godebug = none := by kernel_rfl
theorem laidOut : laidOutB Ybaf.pinned.checked.prog = true := by kernel_rfl
theorem stops : Ybaf.pinned.checked.prog.stops = ["fmt.Sprintf"] := by kernel_rfl
theorem stopKnobs : Ybaf.pinned.checked.prog.stopKnobs = [] := by kernel_rfl
theorem quiet (os : Os) : Stop.quiet Ybaf.pinned.checked.prog os := by
  intro k hk
  rw [stopKnobs] at hk
  cases hk
/-- the variable's name, as the rows spell it -/
def nm : String := (Rows.lawS1913BNamesSpec.vars.head?).getD ""
theorem gN : Ybaf.prog.globalNamed nm = some 0 := by kernel_rfl
theorem gNType : (Ybaf.prog.globals[0]?).map (·.type) = some 28 := by kernel_rfl
theorem cells28 : Ybaf.prog.cellsOf 28 = 7 := by kernel_rfl
theorem cells9 : Ybaf.prog.cellsOf 9 = 1 := by kernel_rfl

def cells7 : Array Value := #[.string ⟨#[]⟩, .string ⟨#[73, 83]⟩, .string ⟨#[73, 88]⟩, .string ⟨#[83]⟩, .string ⟨#[83, 73, 88]⟩, .string ⟨#[85]⟩, .string ⟨#[88]⟩]

theorem str_of_trod {H : Type} {enc : TypeId × Value → H} {w : World} {base : Nat} {sp : Nat → Bool} {held : Bool} {fuel : Nat} {c : Value} {y : DataW H × List MemPlace}
    (h : DataW.trod enc Ybaf.prog w base sp held fuel 9 [c] = some y) : ∃ s : ByteArray, c = .string s ∧ y = (.lit (.string s.data.toList), []) := by
  obtain ⟨s, hc, hy, _⟩ := DataW.trod_string Ybaf.underlying9 h
  simp only [List.cons.injEq, and_true] at hc
  exact ⟨s, hc, hy⟩
theorem ba_of_list {s : ByteArray} {l : List UInt8} (h : s.data.toList = l) : s = ⟨l.toArray⟩ := by
  obtain ⟨⟨a⟩⟩ := s
  simp at h
  rw [h]

theorem cells_of_laid {W : World} (h : laidMet Ybaf.prog Rows.lawS1913BNamesRow.laid W) : W.var? Ybaf.prog nm = some cells7 := by
  obtain ⟨ps, ⟨g, t, cs, fuel, p, q, hg, ht, hvar, hd, _, _⟩, _⟩ := h
  obtain rfl := Option.some.inj (gN.symm.trans hg)
  obtain rfl := Option.some.inj (gNType.symm.trans ht)
  refine hvar.trans ?_
  congr 1
  obtain ⟨l⟩ := cs
  cases fuel with
  | zero => simp [DataW.trod] at hd
  | succ fuel =>
    simp only [DataW.trod, Ybaf.underlying28, cells28, cells9] at hd
    split at hd
    · rename_i hl
      obtain ⟨c0, c1, c2, c3, c4, c5, c6, rfl⟩ : ∃ c0 c1 c2 c3 c4 c5 c6, l = [c0, c1, c2, c3, c4, c5, c6] := by
        match l, hl with
        | [a, b, c, d, e, f, g], _ => exact ⟨a, b, c, d, e, f, g, rfl⟩
      have e : List.range 7 = [0, 1, 2, 3, 4, 5, 6] := rfl
      rw [e] at hd
      simp only [Option.map_eq_some_iff, List.mapM_cons, List.mapM_nil, Option.bind_eq_bind, Option.bind_eq_some_iff, Option.pure_def, Option.some.injEq] at hd
      obtain ⟨xs, ⟨y0, h0, _, ⟨y1, h1, _, ⟨y2, h2, _, ⟨y3, h3, _, ⟨y4, h4, _, ⟨y5, h5, _, ⟨y6, h6, _, rfl, rfl⟩, rfl⟩, rfl⟩, rfl⟩, rfl⟩, rfl⟩, rfl⟩, hx⟩ := hd
      obtain ⟨n0, rfl, rfl⟩ := str_of_trod h0
      obtain ⟨n1, rfl, rfl⟩ := str_of_trod h1
      obtain ⟨n2, rfl, rfl⟩ := str_of_trod h2
      obtain ⟨n3, rfl, rfl⟩ := str_of_trod h3
      obtain ⟨n4, rfl, rfl⟩ := str_of_trod h4
      obtain ⟨n5, rfl, rfl⟩ := str_of_trod h5
      obtain ⟨n6, rfl, rfl⟩ := str_of_trod h6
      simp [Rows.laid_example_com_interlock_interlock_lock_modeNames] at hx
      obtain ⟨⟨e0, e1, e2, e3, e4, e5, e6⟩, _⟩ := hx
      have e0' : n0 = ⟨#[]⟩ := by obtain ⟨a⟩ := n0; simp at e0; rw [e0]
      rw [e0', ba_of_list e1, ba_of_list e2, ba_of_list e3, ba_of_list e4, ba_of_list e5, ba_of_list e6]
      rfl
    · cases hd

/-- The door's own heap meets the condition. -/
theorem door_met (os : Os) (args : Array Value) : laidMetH Ybaf.prog Rows.lawS1913BNamesRow.laid ((World.doorLaid Ybaf.prog 14 os).forCall (fun _ _ => 0) ⟨#[], args, []⟩).memory :=
  laidMetH_of_parts3 (fuel := 8) (laidMet_of_run' 8 (by kernel_rfl) (by kernel_rfl)) (by kernel_rfl) (by kernel_rfl)

set_option maxRecDepth 100000 in
theorem t_lifted (os : Os) (started : os.Started) (H : Type) (enc : TypeId × Value → H) :
    ReturnsInTold none {} Ybaf.checked os 3 .any Input.okWide ((OpenSpec.ofChange Rows.lawS1913BNamesSpec).preRow enc Ybaf.prog Ybaf.f3 [] false Rows.lawS1913BNamesRow.laid) (fun F => ((OpenSpec.ofChange Rows.lawS1913BNamesSpec).at F).post enc Ybaf.prog Ybaf.f3 false true false false) (aloneAtReturn Ybaf.prog) nothingAlways := by
  refine returnsInTold_of_row (C := Ybaf.checked) (s := OpenSpec.ofChange Rows.lawS1913BNamesSpec) (by kernel_rfl) own started (by kernel_rfl) Ybaf.func3
    (OpenSpec.witness_stopped_at (enc := enc) (C := Ybaf.checked) false (World.doorLaid Ybaf.prog 14 os) #[.int .u8 0] rfl (by kernel_rfl) (by kernel_rfl) (by kernel_rfl)
      (OpenSpec.preRow_of_B rfl 8 (by kernel_rfl) (by kernel_rfl) (door_met os _))) ?_
  intro F W base args ds gs before _ hF hval0 hW _ _ _ hL _
  have hval : ∀ (j : Nat) t v, Ybaf.f3.params[j]? = some t → args[j]? = some v → Value.okWide Ybaf.prog W .any base t v := hval0
  have hW' := hW
  obtain ⟨p, q, hA0, hV0, rfl, hfz, hnd⟩ := hW
  have hA : DataW.TrodAll enc Ybaf.prog W 0 (fun _ => true) true Ybaf.f3.params.toList args.toList ds p := hA0
  have hV : DataW.TrodVars enc Ybaf.prog W (fun _ => true) Rows.lawS1913BNamesSpec.vars gs q := hV0
  rw [Ybaf.params3] at hA hval
  obtain ⟨v0, d0, rfl, rfl, h0⟩ := trodAll_one hA
  obtain ⟨x, rfl, rfl, rfl, wx⟩ := open_int Ybaf.underlying5 (hval 0 5 v0 rfl rfl) h0
  clear hA0 hval0
  have hb8 := bounds_u8 wx
  rw [MakeChecks.laidMetH_plain _ _ _ (by kernel_rfl)] at hL
  have hvar := cells_of_laid hL
  have k1 : W.cell? ⟨0, 1, none⟩ = some (.string ⟨#[73, 83]⟩) := by simpa [cells7] using World.var?_cell gN hvar 1
  have k2 : W.cell? ⟨0, 2, none⟩ = some (.string ⟨#[73, 88]⟩) := by simpa [cells7] using World.var?_cell gN hvar 2
  have k3 : W.cell? ⟨0, 3, none⟩ = some (.string ⟨#[83]⟩) := by simpa [cells7] using World.var?_cell gN hvar 3
  have k4 : W.cell? ⟨0, 4, none⟩ = some (.string ⟨#[83, 73, 88]⟩) := by simpa [cells7] using World.var?_cell gN hvar 4
  have k5 : W.cell? ⟨0, 5, none⟩ = some (.string ⟨#[85]⟩) := by simpa [cells7] using World.var?_cell gN hvar 5
  have k6 : W.cell? ⟨0, 6, none⟩ = some (.string ⟨#[88]⟩) := by simpa [cells7] using World.var?_cell gN hvar 6
  obtain ⟨g, t, cs, fuel, d, pv, rfl, hg1, hg2, hg3, hg4, hq⟩ := trodVars_one hV
  refine (names_walk x W hb8.1 hb8.2 k1 k2 k3 k4 k5 k6).mono fun e W' ⟨he, hw⟩ => ?_
  subst he; subst hw
  exact ⟨_, rfl, _, _, _, [], [], q, hW', trodAll_mk1 (shut_bool Ybaf.underlying4 _), trodAll_mk1 (shut_int Ybaf.underlying5 wx), Below.trodVars laidOut (Below.refl _ _) (by kernel_rfl) hV, World.keptBut_refl _ _, fun h => by cases h⟩

set_option maxRecDepth 100000 in
/-- THE STATEMENT -/
theorem names_told : Rows.LawS1913BNamesToldSaid :=
  Claim7.holds_of_told_tied_any_at .later (c := Rows.lawS1913BNamesRow) 3 Ybaf.f3 "fmt.Sprintf" [] [] (true, "30864954f785962d1664259016540e70113fce4e2000f1d7152424f0e2d35271") false false [.wider] true (by kernel_rfl) rfl rfl rfl laidOut (by kernel_rfl) rfl ⟨rfl, rfl, rfl, rfl, rfl, rfl, rfl⟩ rfl rfl (by kernel_rfl) (by kernel_rfl) Ybaf.func3 (by kernel_rfl)
    (of_decide_eq_true (by kernel_rfl)) (by unfold Func.isWrapper; first | (rw [if_pos (by decide +kernel)]; kernel_rfl) | (rw [if_neg (by decide +kernel)]; exact ⟨rfl, rfl⟩)) stops.symm rfl stopKnobs.symm (by kernel_rfl)
    (by kernel_rfl) (by kernel_rfl) (by kernel_rfl) (by kernel_rfl) (by kernel_rfl) (by kernel_rfl) (by kernel_rfl) (by kernel_rfl) (by kernel_rfl) rfl (by kernel_rfl) rfl rfl
    rfl rfl
    rfl (by kernel_rfl) (by kernel_rfl) (by kernel_rfl) (by decide) (by kernel_rfl) lawS1913BNames_row_tie
    (OpenClaim.moreEntering_of (by kernel_rfl) (by kernel_rfl) (by kernel_rfl) (by kernel_rfl) (by kernel_rfl) (by kernel_rfl) (by kernel_rfl) (by kernel_rfl) (by kernel_rfl) (by kernel_rfl))
    ⟨_, WideRow.started_initial, quiet _⟩
    (fun os started _ H enc _ => t_lifted os started H enc)

end Go.Proofs.YbulkampcFmt
