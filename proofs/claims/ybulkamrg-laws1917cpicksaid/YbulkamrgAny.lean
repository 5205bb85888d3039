/- TopologyDescription.anyMeets. -/
import Derived.Test.YbulkamrgMet
namespace Go.Proofs.Ybulkamrg
open Go.RowKit Go.Maps Go.WideMaps

/-- What is known of a server's description. -/
structure SD where
  ad : ByteArray
  t : Nat
  vT : Value
  fT : Nat → Option ByteArray
def Srvs (w : World) (a : Option Addr) (ds : List SD) : Prop := ∀ (i : Nat) (d : SD), ds[i]? = some d → ∃ g, a = some ⟨g, 0, none⟩ ∧ Srv w g (i * 23) d.ad d.t d.vT d.fT
theorem Srvs.keep {w w' : World} {a : Option Addr} {ds : List SD} (h : Srvs w a ds) (hB : Below w.heap.size w w') : Srvs w' a ds := fun i d hd => by
  obtain ⟨g, h1, h2⟩ := h i d hd
  exact ⟨g, h1, h2.keep hB⟩
noncomputable def anyM (ty : Int) (ss : List ByteArray) (fS : Nat → Option ByteArray) (ds : List SD) : Bool := ds.any fun d => meets ty ss fS d.ad d.t d.fT

set_option maxRecDepth 20000 in
set_option maxHeartbeats 4000000 in
theorem any_meets (c cap capS : Nat) (ty : Int) (a aS : Option Addr) (ss : List ByteArray) (ds : List SD) (fS : Nat → Option ByteArray) (x0 x2 x3 x4 x5 : Value) (w : World) (hC : Crit w c ty a ss cap fS) (hS : Srvs w aS ds) (hl : ds.length < 100000) :
    Calls Yba.prog 13 #[.agg #[x0, .slice aS ds.length capS, x2, x3, x4, x5], .pointer (some ⟨c, 0, none⟩)] w fun e w' => e = .returned (.bool (anyM ty ss fS ds)) ∧ Below w.heap.size w w' := by
  have HC : Hid (Crit w c ty a ss cap fS) := hC
  have HS : Hid (Srvs w aS ds) := hS
  clear hC hS
  generalize hn : ds.length = n at hl ⊢
  have Hn : Hid (ds.length = n) := hn
  clear hn
  go_enter Yba.func13, Yba.ntmps13
  go_wp2
  generalize hW : w.alloc _ = W
  have c1 : W.cell? ⟨w.heap.size, 1, none⟩ = some (.slice aS n capS) := by
    rw [← hW, cell_of_row _ _ 1 _ 49 (0, 0) (MapKept.heap_alloc _ _).1]; rfl
  have HB : Hid (Below w.heap.size w W) := by rw [← hW]; exact (Below.refl _ _).alloc (Nat.le_refl _) _
  have hsz : w.heap.size < W.heap.size := by rw [← hW]; simp
  have Hc1 : Hid _ := c1
  clear hW c1
  go_loopw [9] (fun i wr => ∃ j : Nat, i = .int .i64 j ∧ j ≤ n ∧ Hid (∀ d, d ∈ ds.take j → meets ty ss fS d.ad d.t d.fT = false) ∧ Hid (Below W.heap.size W wr)) (fun i _ => n - (intOf i).toNat)
  case atStart => exact ⟨0, rfl, by omega, show ∀ d, d ∈ ds.take 0 → _ from fun d h => by simp at h, Below.refl _ _⟩
  case round =>
    obtain ⟨j, rfl, hj, HD, HBr⟩ := hrel
    have c1 := Below.cellAt HBr.out Hc1.out
    have HBw : Hid (Below w.heap.size w wr) := HB.out.trans (Below.less HBr.out (by omega))
    by_cases hlt : j < n
    · have j1 : (j : Int) < (n : Int) := by omega
      obtain ⟨d, hd⟩ : ∃ d, ds[j]? = some d := ⟨_, List.getElem?_eq_getElem (by rw [Hn.out]; exact hlt)⟩
      obtain ⟨g, hg, hsv⟩ := HS.out j d hd
      subst hg
      have Hmet : Hid (Calls Yba.prog 9 #[.pointer (some ⟨c, 0, none⟩), .pointer (some ⟨g, j * 23, none⟩)] wr fun e w' => e = .returned (.bool (meets ty ss fS d.ad d.t d.fT)) ∧ Below wr.heap.size wr w') :=
        met_any c g (j * 23) cap d.t ty a ss fS d.fT d.ad d.vT wr (HC.out.keep HBw.out) (hsv.keep HBw.out)
      have Hd : Hid _ := hd
      clear hsv hd
      cases hm : meets ty ss fS d.ad d.t d.fT with
      | true =>
        rw [hm] at Hmet
        have Hm : Hid (meets ty ss fS d.ad d.t d.fT = true) := hm
        clear hm
        go_wp2_with (go_at_call 9; refine Calls.mono Hmet.out ?_; rintro e w1 ⟨rfl, hB1⟩; have HB1 : Hid (Below wr.heap.size wr w1) := hB1; clear hB1)
        go_ret
        have : anyM ty ss fS ds = true := List.any_eq_true.2 ⟨d, List.mem_of_getElem? Hd.out, Hm.out⟩
        rw [this]
        exact ⟨rfl, HBw.out.trans (Below.less HB1.out HBw.out.size)⟩
      | false =>
        rw [hm] at Hmet
        have Hm : Hid (meets ty ss fS d.ad d.t d.fT = false) := hm
        clear hm
        go_wp2_with (go_at_call 9; refine Calls.mono Hmet.out ?_; rintro e w1 ⟨rfl, hB1⟩; have HB1 : Hid (Below wr.heap.size wr w1) := hB1; clear hB1)
        go_roundw
        case rel =>
          refine ⟨j + 1, by simp, by omega, show ∀ x, _ → _ from fun x hx => ?_, HBr.out.trans (Below.less HB1.out HBr.out.size)⟩
          rw [List.take_add_one, Hd.out] at hx
          simp only [Option.toList, List.mem_append, List.mem_singleton] at hx
          rcases hx with hx | hx
          · exact HD.out x hx
          · subst hx; exact Hm.out
        case measure => simp [intOf]; omega
    · have hje : j = n := by omega
      subst hje
      go_wp2
      go_ret
      have : anyM ty ss fS ds = false := by
        rw [anyM, List.any_eq_false]
        intro x hx
        rw [HD.out x (by rw [List.take_of_length_le (by rw [Hn.out]; exact Nat.le_refl _)]; exact hx)]
        simp
      rw [this]
      exact ⟨rfl, HBw.out⟩
end Go.Proofs.Ybulkamrg
