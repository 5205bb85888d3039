/- LawS1903AExpire, region 20: the item of a value. -/
import Derived.Test.YbulkamjsAKit
import Derived.Test.YbulkamjsALaw1
namespace Go.Proofs.Ybulkamjs
open Go.RowKit Go.Maps Go.WideMaps
set_option linter.unusedSimpArgs false
set_option linter.unusedVariables false
attribute [-go_sem] loadCells storeCells
attribute [-simp] Yba.zeroValue40 Yba.typeInfo40 Yba.zeroValue44 Yba.typeInfo44 Yba.zeroValue46 Yba.typeInfo46 Yba.zeroValue51 Yba.typeInfo51 Yba.zeroValue53 Yba.typeInfo53
attribute [local simp] zero40 zero44 zero46 zero51 zero53
attribute [local irreducible] zid zt z46 z51 z53 aid tk vk tz vz iz sg
/-- The region i. -/
def regOf (i : Nat) : Code → Option Code
  | .region j ops d => if j = i then some (.region j ops d) else none
  | .loop c => regOf i c
  | .seq a b => match regOf i a with
    | some c => some c
    | none => regOf i b
  | .block _ c => regOf i c
  | .scope c => regOf i c
  | .cond _ a b => match regOf i a with
    | some c => some c
    | none => regOf i b
  | _ => none
noncomputable def reg20 : Code := (Yba.f3.body.bind (regOf 20)).getD .skip

set_option maxRecDepth 20000 in
set_option maxHeartbeats 16000000 in
theorem seg20 (W5 : World) (tb0 j d zj vb : Nat) (K : Act → World → Prop) (Q : Exit → Act → World → Prop) (hQ : ∀ c a i v w, Q (.panic c) (Act.put a i v) w → Q (.panic c) a w) (hd6 : d < 65536) (hz16 : zj < 16)
    (htb5 : W5.heap[tb0]? = some (.cells #[.int .u64 0, .int .i64 0, .pointer none] 28 (0, 0))) (hvb : W5.heap[vb]? = some (.cells (vk j).toArray 46 (0, 0))) (u0 u1 u2 u3 u4 u5 u6 u7 u8 u9 u10 u11 u12 u14 u15 u16 u17 u18 u22 u24 u25 u26 u27 u28 u29 u30 u31 u32 u33 u34 u35 u36 u37 u38 u39 u40 u41 u42 u43 u44 u45 u46 u47 u48 u49 u50 u51 u52 u53 u54 u55 u56 u57 u58 u59 u60 u61 u62 u63 u64 u65 u66 u67 u68 u69 u70 u71 u72 u73 u74 u75 u76 u77 u78 u79 u80 u81 u82 u83 u84 u85 u86 u87 u88 u89 u90 u91 u92 u93 u94 u95 u96 u97 u98 u99 u100 u101 u102 u103 u104 u105 u106 u107 u108 u109 u110 u111 u112 u113 u114 u115 u116 u117 u118 u119 u120 u121 u122 u123 u124 u125 u126 u127 u128 u129 u130 u131 u132 u133 u134 u135 u136 u137 u138 u139 u140 u141 u142 u143 u144 u145 u146 u147 u148 u149 u150 u151 u152 u153 u154 u155 u156 u157 u158 u159 u160 u161 u162 u163 u164 u165 u166 u167 u168 u169 u170 u171 u172 u173 u174 u175 u176 u177 u178 u179 u180 u181 u182 u183 u184 u185 u186 u187 u188 u189 u190 u191 u192 u193 u194 u195 u196 u197 u198 u199 u200 u201 u202 u203 u204 u205 u206 u207 u208 u209 u210 u211 u212 u213 u214 u215 u216 u217 u218 u219 u220 u221 u222 u223 u224 u225 u226 u227 u228 u229 u230 u231 u232 u233 u234 : Value)
    (hK : Hid (∀ (ib : Nat) (A : Array Value) (w' : World) (c87 c88 c89 c90 c91 c92 c93 c94 c95 c96 c97 : Value), w'.heap[ib]? = some (.cells A 53 (0, 0)) → ItS A j d zj → W5.heap.size ≤ ib → Below W5.heap.size W5 w' → K { tmps := #[u0, u1, u2, u3, u4, u5, u6, u7, u8, u9, u10, u11, u12, .pointer (some ⟨tb0, 0, none⟩), u14, u15, u16, u17, u18, .int .i64 (j : Nat), .int .u16 (d : Nat), .int .i64 (zj : Nat), u22, .pointer (some ⟨vb, 0, none⟩), .pointer (some ⟨ib, 0, none⟩), u25, u26, u27, u28, u29, u30, u31, u32, u33, u34, u35, u36, u37, u38, u39, u40, u41, u42, u43, u44, u45, u46, u47, u48, u49, u50, u51, u52, u53, u54, u55, u56, u57, u58, u59, u60, u61, u62, u63, u64, u65, u66, u67, u68, u69, u70, u71, u72, u73, u74, u75, u76, u77, u78, u79, u80, u81, u82, u83, u84, u85, u86, c87, c88, c89, c90, c91, c92, c93, c94, c95, c96, c97, u98, u99, u100, u101, u102, u103, u104, u105, u106, u107, u108, u109, u110, u111, u112, u113, u114, u115, u116, u117, u118, u119, u120, u121, u122, u123, u124, u125, u126, u127, u128, u129, u130, u131, u132, u133, u134, u135, u136, u137, u138, u139, u140, u141, u142, u143, u144, u145, u146, u147, u148, u149, u150, u151, u152, u153, u154, u155, u156, u157, u158, u159, u160, u161, u162, u163, u164, u165, u166, u167, u168, u169, u170, u171, u172, u173, u174, u175, u176, u177, u178, u179, u180, u181, u182, u183, u184, u185, u186, u187, u188, u189, u190, u191, u192, u193, u194, u195, u196, u197, u198, u199, u200, u201, u202, u203, u204, u205, u206, u207, u208, u209, u210, u211, u212, u213, u214, u215, u216, u217, u218, u219, u220, u221, u222, u223, u224, u225, u226, u227, u228, u229, u230, u231, u232, u233, u234], defers := [] } w')) :
    reg20.wp Yba.prog (Exit.then K Q) { tmps := #[u0, u1, u2, u3, u4, u5, u6, u7, u8, u9, u10, u11, u12, .pointer (some ⟨tb0, 0, none⟩), u14, u15, u16, u17, u18, .int .i64 (j : Nat), .int .u16 (d : Nat), .int .i64 (zj : Nat), u22, .pointer (some ⟨vb, 0, none⟩), u24, u25, u26, u27, u28, u29, u30, u31, u32, u33, u34, u35, u36, u37, u38, u39, u40, u41, u42, u43, u44, u45, u46, u47, u48, u49, u50, u51, u52, u53, u54, u55, u56, u57, u58, u59, u60, u61, u62, u63, u64, u65, u66, u67, u68, u69, u70, u71, u72, u73, u74, u75, u76, u77, u78, u79, u80, u81, u82, u83, u84, u85, u86, u87, u88, u89, u90, u91, u92, u93, u94, u95, u96, u97, u98, u99, u100, u101, u102, u103, u104, u105, u106, u107, u108, u109, u110, u111, u112, u113, u114, u115, u116, u117, u118, u119, u120, u121, u122, u123, u124, u125, u126, u127, u128, u129, u130, u131, u132, u133, u134, u135, u136, u137, u138, u139, u140, u141, u142, u143, u144, u145, u146, u147, u148, u149, u150, u151, u152, u153, u154, u155, u156, u157, u158, u159, u160, u161, u162, u163, u164, u165, u166, u167, u168, u169, u170, u171, u172, u173, u174, u175, u176, u177, u178, u179, u180, u181, u182, u183, u184, u185, u186, u187, u188, u189, u190, u191, u192, u193, u194, u195, u196, u197, u198, u199, u200, u201, u202, u203, u204, u205, u206, u207, u208, u209, u210, u211, u212, u213, u214, u215, u216, u217, u218, u219, u220, u221, u222, u223, u224, u225, u226, u227, u228, u229, u230, u231, u232, u233, u234], defers := [] } W5 := by
  have Htb5 : Hid _ := htb5
  have Hvb : Hid _ := hvb
  clear htb5 hvb
  conv in reg20 => whnf
  have h51 := z51_len
  have h53 := z53_len
  have hvk := vk_len j
  have hiz := iz_len j
  have f51 := fold51 j
  have n51 := nonnil h51
  have n53 := nonnil h53
  have nvk := nonnil hvk
  have niz := nonnil hiz
  have HSB : Hid (∀ w' : World, Below W5.heap.size W5 w' → (loadCells ⟨tb0, 0, none⟩ 3).run Yba.prog w' = .ok #[.int .u64 0, .int .i64 0, .pointer none] w' ∧ (loadCells ⟨vb, 0, none⟩ 129).run Yba.prog w' = .ok (vk j).toArray w') := fun w' h => ⟨lcAt (o := 0) (L := [.int .u64 0, .int .i64 0, .pointer none]) ((h.block tb0 (lt_of_heap Htb5.out)).trans Htb5.out) (fun j hj => by simp), ld_all ((h.block vb (lt_of_heap Hvb.out)).trans Hvb.out) (vk_len j)⟩
  have HSn : (fun w' : World => (loadCells ⟨tb0, 0, none⟩ 3).run Yba.prog w' = .ok #[.int .u64 0, .int .i64 0, .pointer none] w' ∧ (loadCells ⟨vb, 0, none⟩ 129).run Yba.prog w' = .ok (vk j).toArray w') W5.drew := HSB.out _ (Below.refl _ _).drew
  refine region_late (S := fun w' : World => (loadCells ⟨tb0, 0, none⟩ 3).run Yba.prog w' = .ok #[.int .u64 0, .int .i64 0, .pointer none] w' ∧ (loadCells ⟨vb, 0, none⟩ 129).run Yba.prog w' = .ok (vk j).toArray w') (late := fun _ => false) (by kernel_rfl) ?_
  refine anyLate_take (i := 0) (v := .agg #[.int .u64 0, .int .i64 0, .pointer none]) rfl (by kernel_rfl) (by kernel_rfl) (by kernel_rfl) (fun _ _ _ h => hQ _ _ _ _ _ h) rfl (by kernel_rfl) (.inl ⟨by kernel_rfl, fun w hSw => by (obtain ⟨s1, s2⟩ := hSw; go_simp)⟩) HSn ?_
  simp only [Act.put, List.setIfInBounds_toArray, List.set_cons_zero, List.set_cons_succ]
  refine anyLate_takeW (i := 1) (v := .int .u16 d) rfl (by kernel_rfl) (by kernel_rfl) (by kernel_rfl) (fun _ _ _ h => hQ _ _ _ _ _ h) (.inl ⟨by kernel_rfl, fun w _ => by go_simp⟩) ?_
  simp only [Act.put, List.setIfInBounds_toArray, List.set_cons_zero, List.set_cons_succ]
  refine anyLate_takeW (i := 2) (v := .int .i64 d) rfl (by kernel_rfl) (by kernel_rfl) (by kernel_rfl) (fun _ _ _ h => hQ _ _ _ _ _ h) (.inl ⟨by kernel_rfl, fun w _ => by (go_simp; exact IntWalk.i64_in _ (by omega))⟩) ?_
  simp only [Act.put, List.setIfInBounds_toArray, List.set_cons_zero, List.set_cons_succ]
  refine anyLate_take (i := 4) (v := .agg (vk j).toArray) rfl (by kernel_rfl) (by kernel_rfl) (by kernel_rfl) (fun _ _ _ h => hQ _ _ _ _ _ h) rfl (by kernel_rfl) (.inl ⟨by kernel_rfl, fun w hSw => by (obtain ⟨s1, s2⟩ := hSw; go_simp)⟩) HSn ?_
  simp only [Act.put, List.setIfInBounds_toArray, List.set_cons_zero, List.set_cons_succ]
  refine anyLate_takeW (i := 5) (v := .int .i64 zj) rfl (by kernel_rfl) (by kernel_rfl) (by kernel_rfl) (fun _ _ _ h => hQ _ _ _ _ _ h) (.inl ⟨by kernel_rfl, fun w _ => by go_simp⟩) ?_
  simp only [Act.put, List.setIfInBounds_toArray, List.set_cons_zero, List.set_cons_succ]
  refine anyLate_takeW (i := 8) (v := .int .i64 j) rfl (by kernel_rfl) (by kernel_rfl) (by kernel_rfl) (fun _ _ _ h => hQ _ _ _ _ _ h) (.inl ⟨by kernel_rfl, fun w _ => by go_simp⟩) ?_
  simp only [Act.put, List.setIfInBounds_toArray, List.set_cons_zero, List.set_cons_succ]
  refine anyLate_ready (rs := [3, 6]) (by kernel_rfl) (by simp) ?_
  obtain ⟨C5, hmk5⟩ := make5 zj (by omega) W5.drew
  refine AllLate.cons rfl ?h1 ?h2
  case h1 =>
    intro K' hK'
    --E{
    go_simp
    refine Calls.mono (add0 d hd6 _) ?_
    rintro e w6 ⟨rfl, hw6⟩
    have HB6 : Hid (Below W5.heap.size W5 w6) := (Below.refl _ _).drew.trans hw6
    refine hK'.out _ _ (fun _ _ => HSB.out _ HB6.out) ?_
    clear hK' hw6 HSn
    try simp only [Act.put, List.setIfInBounds_toArray, List.set_cons_zero, List.set_cons_succ]
    obtain ⟨C, hmk⟩ := make5 zj (by omega) w6
    refine anyLate_ready (rs := [6]) (by kernel_rfl) (by simp) ?_
    refine AllLate.cons rfl (fun K' hK' => ?_) AllLate.nil
    go_simp
    refine hK'.out _ _ (fun _ _ => HSB.out _ (HB6.out.alloc HB6.out.size _)) ?_
    clear hK' hmk
    try simp only [Act.put, List.setIfInBounds_toArray, List.set_cons_zero, List.set_cons_succ]
    have HB7 : Hid (Below W5.heap.size W5 (w6.alloc (.cells C 5 (0, 0)))) := HB6.out.alloc HB6.out.size _
    have hIt := sA_item d j zj (some ⟨w6.heap.size, 0, none⟩) zj
    generalize w6.alloc (.cells C 5 (0, 0)) = w7 at HB7 ⊢
    have f53 := fold53 d j (.slice (some ⟨w6.heap.size, 0, none⟩) zj zj)
    have g53 := sg_len d j (.slice (some ⟨w6.heap.size, 0, none⟩) zj zj)
    have s53 := sg_set d j (.slice (some ⟨w6.heap.size, 0, none⟩) zj zj)
    have hss := sA_size d j (.slice (some ⟨w6.heap.size, 0, none⟩) zj zj)
    generalize sg d j (.slice (some ⟨w6.heap.size, 0, none⟩) zj zj) = Sg at f53 g53 s53
    have nsg := nonnil g53
    generalize sA d j (.slice (some ⟨w6.heap.size, 0, none⟩) zj zj) = SA at s53 hss hIt
    have HIt : Hid _ := hIt
    clear hIt
    refine anyLate_takeW (i := 7) (v := .agg (((iz j).set 129 (.slice (some ⟨w6.heap.size, 0, none⟩) zj zj)).set 130 (.int .i64 0)).toArray) rfl (by kernel_rfl) (by kernel_rfl) (by kernel_rfl) (fun _ _ _ h => hQ _ _ _ _ _ h) (.inl ⟨by kernel_rfl, fun w _ => by go_simp⟩) ?_
    simp only [Act.put, List.setIfInBounds_toArray, List.set_cons_zero, List.set_cons_succ]
    refine anyLate_takeW (i := 9) (v := .agg SA) rfl (by kernel_rfl) (by kernel_rfl) (by kernel_rfl) (fun _ _ _ h => hQ _ _ _ _ _ h) (.inl ⟨by kernel_rfl, fun w _ => by go_simp⟩) ?_
    simp only [Act.put, List.setIfInBounds_toArray, List.set_cons_zero, List.set_cons_succ]
    refine anyLate_ready (rs := [10]) (by kernel_rfl) (by simp) ?_
    refine AllLate.cons rfl (fun K' hK' => ?_) AllLate.nil
    go_simp
    refine hK'.out _ _ (fun _ _ => HSB.out _ (HB7.out.alloc HB7.out.size _)) ?_
    clear hK'
    try simp only [Act.put, List.setIfInBounds_toArray, List.set_cons_zero, List.set_cons_succ]
    refine anyLate_takeW (i := 11) (v := .pointer (some ⟨w7.heap.size, 0, none⟩)) rfl (by kernel_rfl) (by kernel_rfl) (by kernel_rfl) (fun _ _ _ h => hQ _ _ _ _ _ h) (.inl ⟨by kernel_rfl, fun w _ => by go_simp⟩) ?_
    simp only [Act.put, List.setIfInBounds_toArray, List.set_cons_zero, List.set_cons_succ]
    refine anyLate_done (by kernel_rfl) ?_ _
    exact hK.out _ _ _ _ _ _ _ _ _ _ _ _ _ _ (MapKept.heap_alloc _ _).1 HIt.out HB7.out.size (HB7.out.alloc HB7.out.size _)
    --E}
  case h2 =>
    refine AllLate.cons rfl (fun K' hK' => ?_) AllLate.nil
    --F{
    go_simp
    refine hK'.out _ _ (fun _ _ => HSB.out _ ((Below.refl _ _).drew.alloc (Nat.le_refl _) _)) ?_
    clear hK' hmk5 HSn
    try simp only [Act.put, List.setIfInBounds_toArray, List.set_cons_zero, List.set_cons_succ]
    have HB7 : Hid (Below W5.heap.size W5 (W5.alloc (.cells C5 5 (0, 0))).drew) := ((Below.refl _ _).alloc (Nat.le_refl _) _).drew
    generalize (W5.alloc (.cells C5 5 (0, 0))).drew = w6 at HB7 ⊢
    have hIt := sA_item d j zj (some ⟨W5.heap.size, 0, none⟩) zj
    have f53 := fold53 d j (.slice (some ⟨W5.heap.size, 0, none⟩) zj zj)
    have g53 := sg_len d j (.slice (some ⟨W5.heap.size, 0, none⟩) zj zj)
    have s53 := sg_set d j (.slice (some ⟨W5.heap.size, 0, none⟩) zj zj)
    have hss := sA_size d j (.slice (some ⟨W5.heap.size, 0, none⟩) zj zj)
    generalize sg d j (.slice (some ⟨W5.heap.size, 0, none⟩) zj zj) = Sg at f53 g53 s53
    have nsg := nonnil g53
    generalize sA d j (.slice (some ⟨W5.heap.size, 0, none⟩) zj zj) = SA at s53 hss hIt
    have HIt : Hid _ := hIt
    clear hIt
    refine anyLate_takeW (i := 7) (v := .agg (((iz j).set 129 (.slice (some ⟨W5.heap.size, 0, none⟩) zj zj)).set 130 (.int .i64 0)).toArray) rfl (by kernel_rfl) (by kernel_rfl) (by kernel_rfl) (fun _ _ _ h => hQ _ _ _ _ _ h) (.inl ⟨by kernel_rfl, fun w _ => by go_simp⟩) ?_
    simp only [Act.put, List.setIfInBounds_toArray, List.set_cons_zero, List.set_cons_succ]
    refine anyLate_ready (rs := [3]) (by kernel_rfl) (by simp) ?_
    refine AllLate.cons rfl (fun K' hK' => ?_) AllLate.nil
    go_simp
    refine Calls.mono (add0 d hd6 _) ?_
    rintro e w7 ⟨rfl, hw7⟩
    have HB8 : Hid (Below W5.heap.size W5 w7) := HB7.out.trans (blessS hw7 HB7.out.size)
    refine hK'.out _ _ (fun _ _ => HSB.out _ HB8.out) ?_
    clear hK' hw7
    try simp only [Act.put, List.setIfInBounds_toArray, List.set_cons_zero, List.set_cons_succ]
    refine anyLate_takeW (i := 9) (v := .agg SA) rfl (by kernel_rfl) (by kernel_rfl) (by kernel_rfl) (fun _ _ _ h => hQ _ _ _ _ _ h) (.inl ⟨by kernel_rfl, fun w _ => by go_simp⟩) ?_
    simp only [Act.put, List.setIfInBounds_toArray, List.set_cons_zero, List.set_cons_succ]
    refine anyLate_ready (rs := [10]) (by kernel_rfl) (by simp) ?_
    refine AllLate.cons rfl (fun K' hK' => ?_) AllLate.nil
    go_simp
    refine hK'.out _ _ (fun _ _ => HSB.out _ (HB8.out.alloc HB8.out.size _)) ?_
    clear hK'
    try simp only [Act.put, List.setIfInBounds_toArray, List.set_cons_zero, List.set_cons_succ]
    refine anyLate_takeW (i := 11) (v := .pointer (some ⟨w7.heap.size, 0, none⟩)) rfl (by kernel_rfl) (by kernel_rfl) (by kernel_rfl) (fun _ _ _ h => hQ _ _ _ _ _ h) (.inl ⟨by kernel_rfl, fun w _ => by go_simp⟩) ?_
    simp only [Act.put, List.setIfInBounds_toArray, List.set_cons_zero, List.set_cons_succ]
    refine anyLate_done (by kernel_rfl) ?_ _
    exact hK.out _ _ _ _ _ _ _ _ _ _ _ _ _ _ (MapKept.heap_alloc _ _).1 HIt.out HB8.out.size (HB8.out.alloc HB8.out.size _)
    --F}
end Go.Proofs.Ybulkamjs
