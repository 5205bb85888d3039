/- LawS1917CPick from region 15 on: the servers. -/
import Derived.Test.YbulkamrgLawG
namespace Go.Proofs.Ybulkamrg
open Go.RowKit Go.Maps Go.WideMaps
set_option linter.unusedSimpArgs false
set_option linter.unusedVariables false
attribute [-simp] Yba.zeroValue43 Yba.typeInfo43
attribute [local simp] zero43

set_option maxRecDepth 20000 in
set_option maxHeartbeats 4000000 in
theorem seg15 (a0 a1 a2 : Option Addr) (cap0 cap1 cap2 n0 n1 n2 : Nat) (ty : Int) (nilS : Bool) (zs : List ZS) (zb : List ZB) (av : List Nat) (W w : World) (B : Nat) (hBW : Below B W w) (hBs : B ≤ w.heap.size)
    (h0 : ZSrvs w a0 zs) (hZ : ZSets w a1 zb) (h2 : Bytes w a2 av) (hn0 : zs.length = n0) (hn1 : zb.length = n1) (hn2 : av.length = n2) (l0 : n0 ≤ 256) (l1 : n1 ≤ 256) (l2 : n2 ≤ 256) (t0 : ∀ z, z ∈ zs → z.tags.length ≤ 256) (t1 : ∀ z, z ∈ zb → z.bs.length ≤ 256)
    (u5 u6 u7 u8 u9 u10 u11 u12 u13 u14 u15 u16 u17 u18 u19 u20 u21 u22 u23 u24 u25 u26 u27 u28 u29 u30 u31 u32 u33 u34 u35 u36 u37 u38 u39 u40 u41 u42 u43 u44 u45 u46 u47 u48 u49 u50 u51 u52 u53 u54 u55 u56 u57 u58 u59 u60 u61 u62 u63 u64 u65 u66 u67 u68 u69 u70 u71 u72 u73 u74 u75 u76 u77 u78 u79 u80 u81 u82 u83 u84 u85 u86 u87 u88 u89 u90 u91 u92 u93 u94 u95 u96 u97 u98 u99 u100 u101 u102 u103 u104 u105 u106 u107 u108 u109 u110 u111 u112 u113 u114 u115 u116 u117 u118 u119 u120 u121 u122 u123 u124 u125 u126 u127 u128 u129 u130 u131 u132 u133 u134 u135 u136 u137 u138 u139 u140 u141 u142 u143 u144 u145 u146 u147 u148 u149 u150 u151 u152 u153 u154 u155 u156 u157 u158 u159 u160 u161 u162 u163 u164 u165 u166 u167 u168 u169 u170 u171 u172 u173 u174 u175 u176 u177 u178 u179 u180 u181 u182 u183 u184 u185 u186 u187 u188 u189 u190 u191 u192 u193 u194 u195 u196 u197 u198 u199 u200 u201 u202 u203 u204 u205 u206 u207 u208 u209 u210 u211 u212 u213 u214 u215 u216 u217 u218 u219 u220 u221 u222 u223 u224 u225 u226 u227 u228 u229 u230 u231 u232 u233 u234 u235 u236 u237 u238 u239 u240 u241 u242 u243 u244 u245 u246 u247 u248 u249 u250 u251 u252 u253 u254 u255 u256 u257 u258 u259 u260 u261 u262 u263 u264 u265 u266 u267 u268 u269 u270 u271 u272 u273 u274 u275 u276 u277 u278 u279 u280 u281 u282 u283 u284 u285 u286 u287 u288 u289 u290 u291 u292 u293 u294 u295 u296 u297 u298 u299 u300 u301 u302 u303 u304 u305 u306 u307 u308 u309 u310 u311 u312 u313 u314 u315 u316 u317 u318 u319 u320 u321 u322 u323 u324 u325 u326 u327 u328 u329 u330 u331 u332 u333 u334 u335 u336 u337 u338 u339 u340 : Value) :
    (fromR 15 (Yba.f3.body.getD .skip)).wp Yba.prog (bodyPost Yba.prog Yba.f3 fun e w' => e = .returned (.bool true) ∧ Below B W w') { tmps := #[.slice a0 n0 cap0, .slice a1 n1 cap1, .slice a2 n2 cap2, .int .u16 ty, .bool nilS, u5, u6, u7, u8, u9, u10, u11, u12, u13, u14, u15, u16, u17, u18, u19, u20, u21, u22, u23, u24, u25, u26, u27, u28, u29, u30, u31, u32, u33, u34, u35, u36, u37, u38, u39, u40, u41, u42, u43, u44, u45, u46, u47, u48, u49, u50, u51, u52, u53, u54, u55, u56, u57, u58, u59, u60, u61, u62, u63, u64, u65, u66, u67, u68, u69, u70, u71, u72, u73, u74, u75, u76, u77, u78, u79, u80, u81, u82, u83, u84, u85, u86, u87, u88, u89, u90, u91, u92, u93, u94, u95, u96, u97, u98, u99, u100, u101, u102, u103, u104, u105, u106, u107, u108, u109, u110, u111, u112, u113, u114, u115, u116, u117, u118, u119, u120, u121, u122, u123, u124, u125, u126, u127, u128, u129, u130, u131, u132, u133, u134, u135, u136, u137, u138, u139, u140, u141, u142, u143, u144, u145, u146, u147, u148, u149, u150, u151, u152, u153, u154, u155, u156, u157, u158, u159, u160, u161, u162, u163, u164, u165, u166, u167, u168, u169, u170, u171, u172, u173, u174, u175, u176, u177, u178, u179, u180, u181, u182, u183, u184, u185, u186, u187, u188, u189, u190, u191, u192, u193, u194, u195, u196, u197, u198, u199, u200, u201, u202, u203, u204, u205, u206, u207, u208, u209, u210, u211, u212, u213, u214, u215, u216, u217, u218, u219, u220, u221, u222, u223, u224, u225, u226, u227, u228, u229, u230, u231, u232, u233, u234, u235, u236, u237, u238, u239, u240, u241, u242, u243, u244, u245, u246, u247, u248, u249, u250, u251, u252, u253, u254, u255, u256, u257, u258, u259, u260, u261, u262, u263, u264, u265, u266, u267, u268, u269, u270, u271, u272, u273, u274, u275, u276, u277, u278, u279, u280, u281, u282, u283, u284, u285, u286, u287, u288, u289, u290, u291, u292, u293, u294, u295, u296, u297, u298, u299, u300, u301, u302, u303, u304, u305, u306, u307, u308, u309, u310, u311, u312, u313, u314, u315, u316, u317, u318, u319, u320, u321, u322, u323, u324, u325, u326, u327, u328, u329, u330, u331, u332, u333, u334, u335, u336, u337, u338, u339, u340], defers := [] } w := by
  have HBW : Hid (Below B W w) := hBW
  have H0 : Hid (ZSrvs w a0 zs) := h0
  have H1 : Hid (ZSets w a1 zb) := hZ
  have H2 : Hid (Bytes w a2 av) := h2
  have N0 : Hid (zs.length = n0) := hn0
  have N1 : Hid (zb.length = n1) := hn1
  have N2 : Hid (av.length = n2) := hn2
  have T0 : Hid (∀ z, z ∈ zs → z.tags.length ≤ 256) := t0
  have T1 : Hid (∀ z, z ∈ zb → z.bs.length ≤ 256) := t1
  clear hBW h0 hZ h2 hn0 hn1 hn2 t0 t1
  conv in fromR _ _ => whnf
  obtain ⟨C0, hC0, hmk⟩ := make43 n0 l0 w
  go_upto_block 4 with (fail)
  clear hmk
  generalize hw0 : w.alloc (.cells C0 43 (0, 0)) = w0
  have HB0 : Hid (Below w.heap.size w w0) := by rw [← hw0]; exact (Below.refl _ _).alloc (Nat.le_refl _) _
  have HC0 : Hid (∃ C, w0.heap[w.heap.size]? = some (.cells C 43 (0, 0)) ∧ C.size = n0 * 23) := ⟨C0, by rw [← hw0]; exact (MapKept.heap_alloc _ _).1, hC0⟩
  clear hw0 hC0
  go_cut [14] from 71 (fun _ wc => ∃ ds : List SD, Hid (ds.length = n0) ∧ Hid (Srvs wc (some ⟨w.heap.size, 0, none⟩) ds) ∧ Hid (Below w.heap.size w wc))
  case first =>
    go_wp2
    go_loopw [76] (fun i wr => ∃ (j : Nat) (ds : List SD), i = .int .i64 j ∧ j ≤ n0 ∧ Hid (ds.length = j) ∧ Hid (Srvs wr (some ⟨w.heap.size, 0, none⟩) ds) ∧
        Hid (∃ C, wr.heap[w.heap.size]? = some (.cells C 43 (0, 0)) ∧ C.size = n0 * 23) ∧ Hid (Below w.heap.size w wr)) (fun i _ => n0 - (intOf i).toNat)
    case atStart => exact ⟨0, [], rfl, by omega, rfl, show Srvs _ _ _ from fun i d h => by simp at h, HC0, HB0⟩
    case round =>
      obtain ⟨j, ds, rfl, hj, Hdl, HS, HC, HB⟩ := hrel
      by_cases hlt : j < n0
      · have j1 : (j : Int) < (n0 : Int) := by omega
        obtain ⟨z, hz⟩ : ∃ z, zs[j]? = some z := ⟨_, List.getElem?_eq_getElem (by rw [N0.out]; exact hlt)⟩
        obtain ⟨hab, htb, hby, x, hx, c0, c1, c2⟩ := (H0.out.keep HB.out) j z hz
        subst hx
        have Hz : Hid (zs[j]? = some z) := hz
        have Hby : Hid (Bytes wr z.ta z.tags) := hby
        have ab := add_block x (j * 3)
        have ao := add_off x (j * 3)
        clear hz hby
        go_wp2
        refine region_late (S := fun w' => w'.cell? (x.add (j * 3)) = some (.int .u8 z.ab) ∧ w'.cell? ⟨x.block, x.off + j * 3 + 1, none⟩ = some (.int .u8 z.tb)) (late := fun i => i == 16) (by kernel_rfl) ?_
        obtain ⟨t, ht6, ht, htm⟩ : ∃ t : Nat, t < 6 ∧ t = z.tb % 6 ∧ (z.tb : Int).tmod 6 = (t : Int) := ⟨z.tb % 6, by omega, rfl, by rw [Int.tmod_eq_emod_of_nonneg (by omega)]; omega⟩
        have Ht : Hid (t = z.tb % 6) := ht
        clear ht
        have hz23 : Z23.length = 23 := rfl
        have hzn : ¬ Z23 = [] := by intro h; rw [h] at hz23; cases hz23
        have hD : (Z23.set 0 (.string (ads (z.ab % 3)))).set 1 (.int .u8 (t : Int)) = D23 (ads (z.ab % 3)) t := rfl
        obtain ⟨C, hC, hCs⟩ := HC.out
        have hst : (storeCells ⟨w.heap.size, j * 23, none⟩ (D23 (ads (z.ab % 3)) t)).run Yba.prog wr.drew = .ok () (wr.drew.setCells w.heap.size (j * 23) (D23 (ads (z.ab % 3)) t)) := sc_mid (w := wr.drew) hC (by rw [D23_len, hCs]; omega) (D23_one _ _)
        have HCh : Hid (wr.heap[w.heap.size]? = some (.cells C 43 (0, 0))) := hC
        clear hC
        have HSn : wr.drew.cell? (x.add (j * 3)) = some (.int .u8 z.ab) ∧ wr.drew.cell? ⟨x.block, x.off + j * 3 + 1, none⟩ = some (.int .u8 z.tb) := ⟨c0, c1⟩
        refine anyLate_takeW (i := 0) (v := .slice (some ⟨w.heap.size, 0, none⟩) n0 n0) rfl (by kernel_rfl) (by kernel_rfl) (by kernel_rfl) (fun _ _ _ h => h) (.inl ⟨by kernel_rfl, fun w _ => by go_simp⟩) ?_
        simp only [Act.put, List.setIfInBounds_toArray, List.set_cons_zero, List.set_cons_succ]
        refine anyLate_takeW (i := 1) (v := .int .i64 j) rfl (by kernel_rfl) (by kernel_rfl) (by kernel_rfl) (fun _ _ _ h => h) (.inl ⟨by kernel_rfl, fun w _ => by go_simp⟩) ?_
        simp only [Act.put, List.setIfInBounds_toArray, List.set_cons_zero, List.set_cons_succ]
        refine anyLate_takeW (i := 2) (v := .slice (some x) n0 cap0) rfl (by kernel_rfl) (by kernel_rfl) (by kernel_rfl) (fun _ _ _ h => h) (.inl ⟨by kernel_rfl, fun w _ => by go_simp⟩) ?_
        simp only [Act.put, List.setIfInBounds_toArray, List.set_cons_zero, List.set_cons_succ]
        refine anyLate_takeW (i := 3) (v := .int .i64 j) rfl (by kernel_rfl) (by kernel_rfl) (by kernel_rfl) (fun _ _ _ h => h) (.inl ⟨by kernel_rfl, fun w _ => by go_simp⟩) ?_
        simp only [Act.put, List.setIfInBounds_toArray, List.set_cons_zero, List.set_cons_succ]
        refine anyLate_takeW (i := 4) (v := .pointer (some (x.add (j * 3)))) rfl (by kernel_rfl) (by kernel_rfl) (by kernel_rfl) (fun _ _ _ h => h) (.inl ⟨by kernel_rfl, fun w _ => by go_simp⟩) ?_
        simp only [Act.put, List.setIfInBounds_toArray, List.set_cons_zero, List.set_cons_succ]
        refine anyLate_takeW (i := 5) (v := .pointer (some (x.add (j * 3)))) rfl (by kernel_rfl) (by kernel_rfl) (by kernel_rfl) (fun _ _ _ h => h) (.inl ⟨by kernel_rfl, fun w _ => by go_simp⟩) ?_
        simp only [Act.put, List.setIfInBounds_toArray, List.set_cons_zero, List.set_cons_succ]
        refine anyLate_take (i := 6) (v := .int .u8 z.ab) rfl (by kernel_rfl) (by kernel_rfl) (by kernel_rfl) (fun _ _ _ h => h) rfl (by kernel_rfl) (.inl ⟨by kernel_rfl, fun w hSw => by (obtain ⟨s1, s2⟩ := hSw; go_simp)⟩) HSn ?_
        simp only [Act.put, List.setIfInBounds_toArray, List.set_cons_zero, List.set_cons_succ]
        refine anyLate_takeW (i := 8) (v := .slice (some x) n0 cap0) rfl (by kernel_rfl) (by kernel_rfl) (by kernel_rfl) (fun _ _ _ h => h) (.inl ⟨by kernel_rfl, fun w _ => by go_simp⟩) ?_
        simp only [Act.put, List.setIfInBounds_toArray, List.set_cons_zero, List.set_cons_succ]
        refine anyLate_takeW (i := 9) (v := .int .i64 j) rfl (by kernel_rfl) (by kernel_rfl) (by kernel_rfl) (fun _ _ _ h => h) (.inl ⟨by kernel_rfl, fun w _ => by go_simp⟩) ?_
        simp only [Act.put, List.setIfInBounds_toArray, List.set_cons_zero, List.set_cons_succ]
        refine anyLate_takeW (i := 10) (v := .pointer (some (x.add (j * 3)))) rfl (by kernel_rfl) (by kernel_rfl) (by kernel_rfl) (fun _ _ _ h => h) (.inl ⟨by kernel_rfl, fun w _ => by go_simp⟩) ?_
        simp only [Act.put, List.setIfInBounds_toArray, List.set_cons_zero, List.set_cons_succ]
        refine anyLate_takeW (i := 11) (v := .pointer (some ⟨x.block, x.off + j * 3 + 1, none⟩)) rfl (by kernel_rfl) (by kernel_rfl) (by kernel_rfl) (fun _ _ _ h => h) (.inl ⟨by kernel_rfl, fun w _ => by go_simp⟩) ?_
        simp only [Act.put, List.setIfInBounds_toArray, List.set_cons_zero, List.set_cons_succ]
        refine anyLate_take (i := 12) (v := .int .u8 z.tb) rfl (by kernel_rfl) (by kernel_rfl) (by kernel_rfl) (fun _ _ _ h => h) rfl (by kernel_rfl) (.inl ⟨by kernel_rfl, fun w hSw => by (obtain ⟨s1, s2⟩ := hSw; go_simp)⟩) HSn ?_
        simp only [Act.put, List.setIfInBounds_toArray, List.set_cons_zero, List.set_cons_succ]
        refine anyLate_takeW (i := 13) (v := .int .u8 (t : Int)) rfl (by kernel_rfl) (by kernel_rfl) (by kernel_rfl) (fun _ _ _ h => h) (.inl ⟨by kernel_rfl, fun w _ => by go_simp⟩) ?_
        simp only [Act.put, List.setIfInBounds_toArray, List.set_cons_zero, List.set_cons_succ]
        refine anyLate_ready (rs := [7]) (by kernel_rfl) (by simp) ?_
        refine AllLate.cons rfl (fun K' hK' => ?_) AllLate.nil
        go_simp
        refine Calls.mono (caddr_any z.ab hab _) ?_
        rintro e wn ⟨rfl, hwn⟩
        subst hwn
        refine hK'.out _ _ (fun _ h => h) ?_
        clear hK'
        try simp only [Act.put, List.setIfInBounds_toArray, List.set_cons_zero, List.set_cons_succ]
        refine anyLate_takeW (i := 14) (v := .agg (D23 (ads (z.ab % 3)) t).toArray) rfl (by kernel_rfl) (by kernel_rfl) (by kernel_rfl) (fun _ _ _ h => h) (.inl ⟨by kernel_rfl, fun w _ => by go_simp⟩) ?_
        simp only [Act.put, List.setIfInBounds_toArray, List.set_cons_zero, List.set_cons_succ]
        refine anyLate_takeW (i := 15) (v := .pointer (some ⟨w.heap.size, j * 23, none⟩)) rfl (by kernel_rfl) (by kernel_rfl) (by kernel_rfl) (fun _ _ _ h => h) (.inl ⟨by kernel_rfl, fun w _ => by go_simp⟩) ?_
        simp only [Act.put, List.setIfInBounds_toArray, List.set_cons_zero, List.set_cons_succ]
        refine anyLate_ready (rs := [16]) (by kernel_rfl) (by simp) ?_
        refine AllLate.cons rfl (fun K' hK' => ?_) AllLate.nil
        have hdl23 := D23_len (ads (z.ab % 3)) t
        go_simp
        refine hK'.out _ _ (fun h => by simp at h) ?_
        clear hK' hst
        refine anyLate_done (by kernel_rfl) ?_ _
        generalize hwa : wr.drew.setCells w.heap.size (j * 23) (D23 (ads (z.ab % 3)) t) = wa
        have hba : ∀ k, k ≠ w.heap.size → wa.heap[k]? = wr.heap[k]? := fun k hk => by rw [← hwa, heap_setCells _ _ _ _ _ hk]; rfl
        obtain ⟨C', hC', hCs', hout, hin⟩ := heap_mid (b := w.heap.size) (t := 43) (D23 (ads (z.ab % 3)) t) (j * 23) wr.drew C HCh.out (by rw [hdl23, hCs]; omega)
        rw [hwa] at hC'
        have HBa : Hid (Below w.heap.size w wa) := by rw [← hwa]; exact Below_setCells _ (Nat.le_refl _) _ _ _ (HB.out.drew)
        have hmv : ∀ (k : Nat) (es : Array MapEntry) (clock : Nat), wr.heap[k]? = some (Obj.map es clock) → wa.heap[k]? = some (Obj.map es clock) := fun k es clock hk => by
          refine (hba k (fun e => ?_)).trans hk
          subst e; rw [HCh.out] at hk; cases hk
        have HSa : Hid (Srvs wa (some ⟨w.heap.size, 0, none⟩) ds) := by
          refine HS.out.move (fun i hi k hk => ?_) hmv
          rw [Hdl.out] at hi
          rw [cell_of_row wa _ _ _ 43 (0, 0) hC', cell_of_row wr _ _ _ 43 (0, 0) HCh.out, hout _ (by left; omega)]
        have a0' : wa.cell? ⟨w.heap.size, j * 23, none⟩ = some (.string (ads (z.ab % 3))) := by rw [cell_of_row wa _ _ _ 43 (0, 0) hC', show j * 23 = j * 23 + 0 from rfl, hin 0 (by rw [hdl23]; omega)]; rfl
        have a1' : wa.cell? ⟨w.heap.size, j * 23 + 1, none⟩ = some (.int .u8 t) := by rw [cell_of_row wa _ _ _ 43 (0, 0) hC', hin 1 (by rw [hdl23]; omega)]; rfl
        have a3' : wa.cell? ⟨w.heap.size, j * 23 + 3, none⟩ = some (.map none) := by rw [cell_of_row wa _ _ _ 43 (0, 0) hC', hin 3 (by rw [hdl23]; omega)]; rfl
        have HCa : Hid (wa.heap[w.heap.size]? = some (.cells C' 43 (0, 0)) ∧ C'.size = n0 * 23) := ⟨hC', by rw [hCs', hCs]⟩
        obtain ⟨_, _, hby2, x', hx', _, _, e2⟩ := (H0.out.keep HBa.out) j z Hz.out
        have hxx : x' = x := by injection hx' with h; exact h.symm
        subst hxx
        have Hby2 : Hid (Bytes wa z.ta z.tags) := hby2
        have hszw : w.heap.size < wa.heap.size := lt_of_heap hC'
        have A0 : Hid _ := a0'
        have A1 : Hid _ := a1'
        have A3 : Hid _ := a3'
        have Hab := hab
        clear hwa hba hC' hCs' hout hin hmv c0 c1 c2 HSn a0' a1' a3' hby2 hD hzn hz23 htm hdl23
        by_cases htl : z.tags = []
        · have htl' : ¬ (0 : Int) < (z.tags.length : Int) := by rw [htl]; simp
          have Htl : Hid _ := htl
          clear htl
          go_wp2
          go_roundw
          case rel =>
            refine ⟨j + 1, ds ++ [⟨ads (z.ab % 3), t, .map none, fun _ => none⟩], by simp, by omega, show _ = _ by simp [Hdl.out], HSa.out.snoc ?_, ⟨C', HCa.out⟩, HBa⟩
            · rw [Hdl.out]; exact ⟨A0.out, A1.out, A3.out, .inl ⟨rfl, fun _ => rfl⟩, ht6⟩
          case measure => simp [intOf]; omega
        · have htl' : (0 : Int) < (z.tags.length : Int) := by
            cases hh : z.tags with
            | nil => exact absurd hh htl
            | cons b r => simp
          clear htl
          have htg := T0.out z (List.mem_of_getElem? Hz.out)
          go_wp2_with (fail)
          refine Calls.mono (cbuild_any z.ta z.tags z.tcap wa Hby2.out (by omega)) ?_
          rintro e w1 ⟨v, rfl, hvn, hMv, hB1⟩
          rcases hMv with ⟨e, _⟩ | ⟨mm, N, D, rfl, hom, hFD⟩
          · exact absurd e hvn
          clear hvn
          have b3 := Below.cellAt hB1 A3.out
          have b0 := Below.cellAt hB1 A0.out
          have b1 := Below.cellAt hB1 A1.out
          have hCw1 : w1.heap[w.heap.size]? = some (.cells C' 43 (0, 0)) := (hB1.block _ hszw).trans HCa.out.1
          have bf : w1.frozen? ⟨w.heap.size, j * 23 + 3, none⟩ = false := by simp [World.frozen?, hCw1]
          have HCw1 : Hid _ := hCw1
          have Hb0 : Hid _ := b0
          have Hb1 : Hid _ := b1
          have Hom : Hid (w1.ownsMap Yba.prog 9 (plainElem Yba.prog 9) mm N D) := hom
          have HFD : Hid (FD D (fOf z.tags)) := hFD
          have HS1 : Hid (Srvs w1 (some ⟨w.heap.size, 0, none⟩) ds) := HSa.out.keep hB1
          have HB1 : Hid (Below w.heap.size w w1) := HBa.out.trans (Below.less hB1 (by omega))
          clear b0 b1 hCw1 hom hFD hB1 e2
          go_wp2
          have hmv : ∀ (k : Nat) (es : Array MapEntry) (clock : Nat), w1.heap[k]? = some (Obj.map es clock) → (w1.setCell ⟨w.heap.size, j * 23 + 3, none⟩ (.map (some mm))).heap[k]? = some (Obj.map es clock) := fun k es clock hk => by
            rw [Below.heap_setCell _ _ _ _ (fun e => ?_)]
            · exact hk
            · have e' : k = w.heap.size := e
              subst e'; rw [HCw1.out] at hk; cases hk
          have hnew := heap_setCell_same w1 w.heap.size (j * 23 + 3) C' 43 (.map (some mm)) HCw1.out
          have hcc : ∀ o, o ≠ j * 23 + 3 → (w1.setCell ⟨w.heap.size, j * 23 + 3, none⟩ (.map (some mm))).cell? ⟨w.heap.size, o, none⟩ = w1.cell? ⟨w.heap.size, o, none⟩ := fun o ho => by
            rw [cell_of_row _ _ _ _ 43 (0, 0) hnew, cell_of_row w1 _ _ _ 43 (0, 0) HCw1.out, Array.getElem?_setIfInBounds, if_neg (fun e => ho e.symm)]
          go_roundw
          case rel =>
            refine ⟨j + 1, ds ++ [⟨ads (z.ab % 3), t, .map (some mm), fOf z.tags⟩], by simp, by omega, show _ = _ by simp [Hdl.out], Srvs.snoc (HS1.out.move (fun i hi k hk => hcc _ (by rw [Hdl.out] at hi; omega)) hmv) ?_, ⟨_, hnew, by simpa using HCa.out.2⟩, HB1.out.setCell (p := ⟨w.heap.size, j * 23 + 3, none⟩) (Nat.le_refl _) _⟩
            · rw [Hdl.out]
              refine ⟨(hcc _ (by omega)).trans Hb0.out, (hcc _ (by omega)).trans Hb1.out, ?_, MapF.move (.inr ⟨mm, N, D, rfl, Hom.out, HFD.out⟩) hmv, ht6⟩
              rw [cell_of_row _ _ _ _ 43 (0, 0) hnew, Array.getElem?_setIfInBounds, if_pos rfl, if_pos (by rw [HCa.out.2]; omega)]
          case measure => simp [intOf]; omega
      · have hje : n0 = j := by omega
        subst hje
        go_wp2
        go_meet
        exact ⟨ds, Hdl, HS, HB⟩
  case rest =>
    obtain ⟨ds, Hdl, HS, HBc⟩ := hcut
    go_step
    exact seg23 a0 a1 a2 cap0 cap1 cap2 w.heap.size n0 n1 n2 ty nilS ds zb av W wc B (HBW.out.trans (Below.less HBc.out hBs)) (Nat.le_trans hBs HBc.out.size) HS.out (H1.out.keep HBc.out) (H2.out.keep HBc.out) Hdl.out N1.out N2.out l0 l1 l2 T1.out _ _ _ _ _ _ _ _ _ _ _ _ _ _ _ _ _ _ _ _ _ _ _ _ _ _ _ _ _ _ _ _ _ _ _ _ _ _ _ _ _ _ _ _ _ _ _ _ _ _ _ _ _ _ _ _ _ _ _ _ _ _ _ _ _ _ _ _ _ _ _ _ _ _ _ _ _ _ _ _ _ _ _ _ _ _ _ _ _ _ _ _ _ _ _ _ _ _ _ _ _ _ _ _ _ _ _ _ _ _ _ _ _ _ _ _ _ _ _ _ _ _ _ _ _ _ _ _ _ _ _ _ _ _ _ _ _ _ _ _ _ _ _ _ _ _ _ _ _ _ _ _ _ _ _ _ _ _ _ _ _ _ _ _ _ _ _ _ _ _ _ _ _ _ _ _ _ _ _ _ _ _ _ _ _ _ _ _ _ _ _ _ _ _ _ _ _ _ _ _ _ _ _ _ _ _ _ _ _ _ _ _ _ _ _ _ _ _ _ _ _ _ _ _ _ _ _ _ _ _ _ _ _ _ _ _ _ _ _ _ _ _ _ _ _ _ _ _ _ _ _ _ _ _ _ _ _ _ _ _ _ _ _ _ _ _ _ _ _ _ _ _ _ _ _ _ _ _ _ _ _ _ _ _ _ _ _ _ _ _ _ _ _ _ _ _ _ _ _ _ _ _ _ _ _ _ _ _ _ _ _ _ _ _ _ _ _ _ _ _ _ _ _ _ _ _ _ _ _ _ _ _ _ _ _
end Go.Proofs.Ybulkamrg
