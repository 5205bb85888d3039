/- NewDirectory(), of no ids. -/
import Derived.Test.YbulkamjsRel
import Derived.LoopN
namespace Go.Proofs.Ybulkamjs
open Go.RowKit Go.Maps Go.WideMaps
attribute [-simp] Yba.zeroValue40 Yba.typeInfo40
set_option maxRecDepth 20000 in
set_option maxHeartbeats 2000000 in
theorem new_dir (w : World) : Calls Yba.prog 15 #[.slice none 0 0] w fun e w' => e = .returned (.pointer (some ⟨w.heap.size + 1, 0, none⟩)) ∧
    w' = (w.alloc (.map #[] 0)).alloc (dirObj 0 (.slice none 0 0) (.slice none 0 0) w.heap.size (.slice none 0 0)) := by
  have hmk : (Instr.makeMap 112 (some (Value.int IntKind.i64 0))).run Yba.prog w = .ok (.map (some w.heap.size)) (w.alloc (.map #[] 0)) := by kernel_rfl
  go_enter Yba.func15, Yba.ntmps15
  go_wp2
  refine wp_loop_rounds 1 ?_
  simp only [Code.rounds]
  go_wp2
  go_ret
  exact ⟨rfl, rfl⟩

/-- The directory made: it holds nothing. -/
theorem new_start (kl : Nat → Lit) (w : World) :
    Dir (fun k => k < w.heap.size) w.heap.size (w.heap.size + 1) kl 0 (fun _ => 0) (fun _ => 0) [] ((w.alloc (.map #[] 0)).alloc (dirObj 0 (.slice none 0 0) (.slice none 0 0) w.heap.size (.slice none 0 0))) := by
  have hm : ((w.alloc (.map #[] 0)).alloc (dirObj 0 (.slice none 0 0) (.slice none 0 0) w.heap.size (.slice none 0 0))).ownsMap Yba.prog 40 (plainElem (H := Unit) Yba.prog 102) w.heap.size 0 (.map []) :=
    (World.ownsMap_made w Yba.prog 40 _).alloc _
  refine ⟨w.heap.size, 0, 0, .slice none 0 0, .slice none 0 0, .slice none 0 0, [], [], .map [], ?_⟩
  exact
    { hd := by
        have := (MapKept.heap_alloc (w.alloc (.map #[] 0)) (dirObj 0 (.slice none 0 0) (.slice none 0 0) w.heap.size (.slice none 0 0))).1
        simpa using this
      hm := hm
      hI := ⟨by simp, .inl ⟨rfl, rfl⟩⟩
      hR := ⟨by simp, .inl ⟨rfl, rfl⟩⟩
      hF := ⟨by simp [fl], .inl ⟨rfl, rfl⟩⟩
      RF := fun g h => by cases h
      avd := by omega
      avm := by omega
      avI := fun g h => by cases h
      avR := fun g h => by cases h
      avF := fun g h => by cases h
      hsl := fun k _ h => by omega
      hids := fun k _ h => by omega
      hrefs := fun k _ h => by omega
      hat := fun k _ h => by omega
      hinj := fun j k _ _ h => by omega
      hhas := fun k _ => rfl
      hsize := rfl
      hfr := fun i h => by cases h
      hnd := List.nodup_nil
      bn := by omega
      bN := by omega
      bf := by simp
      bc := fun _ => by omega }
end Go.Proofs.Ybulkamjs
