/- (*Directory).release of a hold that is not the last. -/
import Derived.Test.YbulkamjsDir
namespace Go.Proofs.Ybulkamjs
open Go.RowKit Go.Maps Go.WideMaps Go.MuLone

set_option maxRecDepth 20000 in
set_option maxHeartbeats 2000000 in
theorem release_more (d m gr n cap i r : Nat) (I F : Value) (C : Array Value) (w : World)
    (hd : w.heap[d]? = some (dirObj 0 I (.slice (some ⟨gr, 0, none⟩) n cap) m F))
    (hi : i < n) (hr : w.heap[gr]? = some (.cells C 102 (0, 0))) (hdg : gr ≠ d)
    (hC : C[i]? = some (.int .u32 r)) (hrb : r < 100000) (hr2 : 2 ≤ r) :
    Calls Yba.prog 19 #[.pointer (some ⟨d, 0, none⟩), .int .u32 i] w fun e w' => e = .returned (.tuple #[]) ∧
      w'.heap[gr]? = some (.cells (C.setIfInBounds i (.int .u32 ((r : Int) - 1))) 102 (0, 0)) ∧ Kept (fun k => k = gr) w w' := by
  have c0 := dir0 hd
  have f0 := dirF hd 0
  have hdlt : d < w.heap.size := lt_of_heap hd
  have hglt : gr < w.heap.size := lt_of_heap hr
  have hdW : (w.setCell ⟨d, 0, none⟩ (.int .i32 1)).heap[d]? = some (dirObj 1 I (.slice (some ⟨gr, 0, none⟩) n cap) m F) := dir_lock hd 1
  have hrW : (w.setCell ⟨d, 0, none⟩ (.int .i32 1)).heap[gr]? = some (.cells C 102 (0, 0)) := (Below.heap_setCell _ _ _ _ hdg).trans hr
  have Hd : Hid (w.heap[d]? = some (dirObj 0 I (.slice (some ⟨gr, 0, none⟩) n cap) m F)) := hd
  clear hd hr
  generalize hW : w.setCell ⟨d, 0, none⟩ (.int .i32 1) = W at hdW hrW
  have HW : Hid (w.setCell ⟨d, 0, none⟩ (.int .i32 1) = W) := hW
  clear hW
  have hK : Hid (Kept (fun k => k = d) w W) := by
    rw [← HW.out]
    exact (Kept.refl (fun k => k = d) w).setCell ⟨d, 0, none⟩ (fun _ => rfl) _
  have k0 := dir0 hdW
  have k3 := dir3 hdW
  have kf := dirF hdW 0
  have kr : W.cell? ⟨gr, i, none⟩ = some (.int .u32 r) := by rw [cell_of_row W gr i _ 102 (0, 0) hrW]; exact hC
  have krf : W.frozen? ⟨gr, i, none⟩ = false := by simp [World.frozen?, hrW]
  have HdW : Hid _ := hdW
  have HrW : Hid _ := hrW
  clear hdW hrW hC
  have hi' : ((i : Nat) : Int) < n := by omega
  have hw1 : IntKind.u32.wrap ((r : Int) - 1) = (r : Int) - 1 := IntWalk.u32_in _ (by omega)
  have hn1 : ¬ ((r : Int) - 1 = 0) := by omega
  go_enter_defers Yba.func19, Yba.ntmps19
  go_wp2_with (go_at_call 32; refine (lock_free Yba.muLib ⟨d, 0, none⟩ _ (by go_simp) (by go_simp)).mono ?_; rintro e w' ⟨rfl, rfl⟩; rw [HW.out])
  have hne : (⟨gr, i, none⟩ : Addr) ≠ ⟨d, 0, none⟩ := fun e => hdg (by injection e)
  refine leaves_cons (f := 33) (args := #[.pointer (some ⟨d, 0, none⟩)]) (by simp) (by simp [go_sem]) ?_
  refine (unlock_deferred Yba.muLib ⟨d, 0, none⟩ .returning _ ?_ ?_).mono ?_
  · rw [World.cell?_setCell_other _ _ _ _ hne]; exact k0
  · simpa using kf
  rintro e u' w'' ⟨rfl, rfl, rfl⟩
  refine ⟨_, results_none rfl _ _ _, rfl, ?_, ?_⟩
  · rw [Below.heap_setCell _ _ _ _ hdg]
    exact heap_setCell_same W gr i C 102 _ HrW.out
  · have hKd : Kept (fun k => k = gr ∨ k = d) w ((W.setCell ⟨gr, i, none⟩ (.int .u32 ((r : Int) - 1))).setCell ⟨d, 0, none⟩ (.int .i32 0)) :=
      ((hK.out.mono (own' := fun k => k = gr ∨ k = d) (fun _ _ h => .inr h)).setCell ⟨gr, i, none⟩ (fun _ => .inl rfl) _).setCell ⟨d, 0, none⟩ (fun _ => .inr rfl) _
    refine ⟨hKd.os, hKd.tape, hKd.output, hKd.size, fun k hk hn => ?_⟩
    by_cases e : k = d
    · subst e
      have h1 : (W.setCell ⟨gr, i, none⟩ (.int .u32 ((r : Int) - 1))).heap[k]? = some (dirObj 1 I (.slice (some ⟨gr, 0, none⟩) n cap) m F) :=
        (Below.heap_setCell W ⟨gr, i, none⟩ _ k (fun e => hdg e.symm)).trans HdW.out
      rw [Hd.out]; exact dir_lock h1 0
    · exact hKd.block k hk (fun h => h.elim hn e)
end Go.Proofs.Ybulkamjs
