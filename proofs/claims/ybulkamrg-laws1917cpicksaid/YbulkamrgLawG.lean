/- LawS1917CPick from region 23 on: the sets of tags. -/
import Derived.Test.YbulkamrgLawF
namespace Go.Proofs.Ybulkamrg
open Go.RowKit Go.Maps Go.WideMaps
set_option linter.unusedSimpArgs false
set_option linter.unusedVariables false

set_option maxRecDepth 20000 in
set_option maxHeartbeats 4000000 in
theorem seg23 (a0 a1 a2 : Option Addr) (cap0 cap1 cap2 gS n0 n1 n2 : Nat) (ty : Int) (nilS : Bool) (ds : List SD) (zb : List ZB) (av : List Nat) (W w : World) (B : Nat) (hBW : Below B W w) (hBs : B ≤ w.heap.size)
    (hD : Srvs w (some ⟨gS, 0, none⟩) ds) (hZ : ZSets w a1 zb) (h2 : Bytes w a2 av) (hdl : ds.length = n0) (hn1 : zb.length = n1) (hn2 : av.length = n2) (l0 : n0 ≤ 256) (l1 : n1 ≤ 256) (l2 : n2 ≤ 256) (t1 : ∀ z, z ∈ zb → z.bs.length ≤ 256)
    (u5 u6 u7 u8 u9 u10 u11 u12 u14 u15 u16 u17 u18 u19 u20 u21 u22 u23 u24 u25 u26 u27 u28 u29 u30 u31 u32 u33 u34 u35 u36 u37 u38 u39 u40 u41 u42 u43 u44 u45 u46 u47 u48 u49 u50 u51 u52 u53 u54 u55 u56 u57 u58 u59 u60 u61 u62 u63 u64 u65 u66 u67 u68 u69 u70 u71 u72 u73 u74 u75 u76 u77 u78 u79 u80 u81 u82 u83 u84 u85 u86 u87 u88 u89 u90 u91 u92 u93 u94 u95 u96 u97 u98 u99 u100 u101 u102 u103 u104 u105 u106 u107 u108 u109 u110 u111 u112 u113 u114 u115 u116 u117 u118 u119 u120 u121 u122 u123 u124 u125 u126 u127 u128 u129 u130 u131 u132 u133 u134 u135 u136 u137 u138 u139 u140 u141 u142 u143 u144 u145 u146 u147 u148 u149 u150 u151 u152 u153 u154 u155 u156 u157 u158 u159 u160 u161 u162 u163 u164 u165 u166 u167 u168 u169 u170 u171 u172 u173 u174 u175 u176 u177 u178 u179 u180 u181 u182 u183 u184 u185 u186 u187 u188 u189 u190 u191 u192 u193 u194 u195 u196 u197 u198 u199 u200 u201 u202 u203 u204 u205 u206 u207 u208 u209 u210 u211 u212 u213 u214 u215 u216 u217 u218 u219 u220 u221 u222 u223 u224 u225 u226 u227 u228 u229 u230 u231 u232 u233 u234 u235 u236 u237 u238 u239 u240 u241 u242 u243 u244 u245 u246 u247 u248 u249 u250 u251 u252 u253 u254 u255 u256 u257 u258 u259 u260 u261 u262 u263 u264 u265 u266 u267 u268 u269 u270 u271 u272 u273 u274 u275 u276 u277 u278 u279 u280 u281 u282 u283 u284 u285 u286 u287 u288 u289 u290 u291 u292 u293 u294 u295 u296 u297 u298 u299 u300 u301 u302 u303 u304 u305 u306 u307 u308 u309 u310 u311 u312 u313 u314 u315 u316 u317 u318 u319 u320 u321 u322 u323 u324 u325 u326 u327 u328 u329 u330 u331 u332 u333 u334 u335 u336 u337 u338 u339 u340 : Value) :
    (fromR 23 (Yba.f3.body.getD .skip)).wp Yba.prog (bodyPost Yba.prog Yba.f3 fun e w' => e = .returned (.bool true) ∧ Below B W w') { tmps := #[.slice a0 n0 cap0, .slice a1 n1 cap1, .slice a2 n2 cap2, .int .u16 ty, .bool nilS, u5, u6, u7, u8, u9, u10, u11, u12, .slice (some ⟨gS, 0, none⟩) n0 n0, u14, u15, u16, u17, u18, u19, u20, u21, u22, u23, u24, u25, u26, u27, u28, u29, u30, u31, u32, u33, u34, u35, u36, u37, u38, u39, u40, u41, u42, u43, u44, u45, u46, u47, u48, u49, u50, u51, u52, u53, u54, u55, u56, u57, u58, u59, u60, u61, u62, u63, u64, u65, u66, u67, u68, u69, u70, u71, u72, u73, u74, u75, u76, u77, u78, u79, u80, u81, u82, u83, u84, u85, u86, u87, u88, u89, u90, u91, u92, u93, u94, u95, u96, u97, u98, u99, u100, u101, u102, u103, u104, u105, u106, u107, u108, u109, u110, u111, u112, u113, u114, u115, u116, u117, u118, u119, u120, u121, u122, u123, u124, u125, u126, u127, u128, u129, u130, u131, u132, u133, u134, u135, u136, u137, u138, u139, u140, u141, u142, u143, u144, u145, u146, u147, u148, u149, u150, u151, u152, u153, u154, u155, u156, u157, u158, u159, u160, u161, u162, u163, u164, u165, u166, u167, u168, u169, u170, u171, u172, u173, u174, u175, u176, u177, u178, u179, u180, u181, u182, u183, u184, u185, u186, u187, u188, u189, u190, u191, u192, u193, u194, u195, u196, u197, u198, u199, u200, u201, u202, u203, u204, u205, u206, u207, u208, u209, u210, u211, u212, u213, u214, u215, u216, u217, u218, u219, u220, u221, u222, u223, u224, u225, u226, u227, u228, u229, u230, u231, u232, u233, u234, u235, u236, u237, u238, u239, u240, u241, u242, u243, u244, u245, u246, u247, u248, u249, u250, u251, u252, u253, u254, u255, u256, u257, u258, u259, u260, u261, u262, u263, u264, u265, u266, u267, u268, u269, u270, u271, u272, u273, u274, u275, u276, u277, u278, u279, u280, u281, u282, u283, u284, u285, u286, u287, u288, u289, u290, u291, u292, u293, u294, u295, u296, u297, u298, u299, u300, u301, u302, u303, u304, u305, u306, u307, u308, u309, u310, u311, u312, u313, u314, u315, u316, u317, u318, u319, u320, u321, u322, u323, u324, u325, u326, u327, u328, u329, u330, u331, u332, u333, u334, u335, u336, u337, u338, u339, u340], defers := [] } w := by
  have HBW : Hid (Below B W w) := hBW
  have HS : Hid (Srvs w (some ⟨gS, 0, none⟩) ds) := hD
  have H1 : Hid (ZSets w a1 zb) := hZ
  have H2 : Hid (Bytes w a2 av) := h2
  have Hdl : Hid (ds.length = n0) := hdl
  have N1 : Hid (zb.length = n1) := hn1
  have N2 : Hid (av.length = n2) := hn2
  have T1 : Hid (∀ z, z ∈ zb → z.bs.length ≤ 256) := t1
  clear hBW hD hZ h2 hdl hn1 hn2 t1
  obtain ⟨bb, hbb⟩ : ∃ bb, (!nilS || decide (0 < n1)) = bb := ⟨_, rfl⟩
  have Hbb : Hid ((!nilS || decide (0 < n1)) = bb) := hbb
  clear hbb
  obtain ⟨wd, hwd⟩ : ∃ wd : World, wd = w := ⟨_, rfl⟩
  subst hwd
  conv in fromR _ _ => whnf
  go_upto_region 24 with (fail)
  go_cut [119] from 113 (fun s wc => s = .bool bb ∧ wc = wd)
  case first =>
    cases hnil : nilS with
    | false =>
      have h1 : bb = true := by rw [← Hbb.out, hnil]; rfl
      subst hnil
      go_wp2
      go_meet
      exact ⟨by rw [h1], rfl⟩
    | true =>
      have h1 : bb = decide (0 < n1) := by rw [← Hbb.out, hnil]; simp
      subst hnil
      go_wp2
      go_meet
      exact ⟨by rw [h1], rfl⟩
  case rest =>
    obtain ⟨rfl, rfl⟩ := hcut
    obtain ⟨we, hwe⟩ : ∃ we : World, we = wc := ⟨_, rfl⟩
    subst hwe
    go_upto_if 119 with (fail)
    go_cut [15, 16] from 113 (fun s _ w1 => ∃ (aT : Option Addr) (capT : Nat) (fs : List (Nat → Option ByteArray)), s = .slice aT fs.length capT ∧ Hid (fs = zb.map fun z => fOf z.bs) ∧ Hid (Sets w1 aT fs) ∧ Hid (Below we.heap.size we w1))
    case first =>
      cases hb : bb with
      | false =>
        have hb0 : Hid (zb = []) := by
          have := Hbb.out
          rw [hb] at this
          simp at this
          exact List.length_eq_zero_iff.1 (by rw [N1.out]; omega)
        go_wp2
        go_meet
        exact ⟨none, 0, [], rfl, show _ = _ by rw [hb0.out]; rfl, show Sets _ _ _ from fun j f h => by simp at h, Below.refl _ _⟩
      | true =>
        obtain ⟨C0, hC0, hmk⟩ := make46 n1 l1 we
        clear hb
        go_wp2
        clear hmk
        generalize hw0 : we.alloc (.cells C0 46 (0, 0)) = w0
        have HB0 : Hid (Below we.heap.size we w0) := by rw [← hw0]; exact (Below.refl _ _).alloc (Nat.le_refl _) _
        have HC0 : Hid (∃ C, w0.heap[we.heap.size]? = some (.cells C 46 (0, 0)) ∧ C.size = n1) := ⟨C0, by rw [← hw0]; exact (MapKept.heap_alloc _ _).1, hC0⟩
        clear hw0 hC0
        go_loopw [125] (fun i wr => ∃ (j : Nat) (fs : List (Nat → Option ByteArray)), i = .int .i64 j ∧ j ≤ n1 ∧ Hid (fs = (zb.take j).map fun z => fOf z.bs) ∧ Hid (Sets wr (some ⟨we.heap.size, 0, none⟩) fs) ∧
            Hid (∃ C, wr.heap[we.heap.size]? = some (.cells C 46 (0, 0)) ∧ C.size = n1) ∧ Hid (Below we.heap.size we wr)) (fun i _ => n1 - (intOf i).toNat)
        case atStart => exact ⟨0, [], rfl, by omega, show _ = _ by simp, show Sets _ _ _ from fun j f h => by simp at h, HC0, HB0⟩
        case round =>
          obtain ⟨j, fs, rfl, hj, Hfs, HSt, HC, HBr⟩ := hrel
          by_cases hlt : j < n1
          · have j1 : (j : Int) < (n1 : Int) := by omega
            obtain ⟨z, hz⟩ : ∃ z, zb[j]? = some z := ⟨_, List.getElem?_eq_getElem (by rw [N1.out]; exact hlt)⟩
            obtain ⟨hby, x, hx, c0⟩ := (H1.out.keep HBr.out) j z hz
            subst hx
            have Hz : Hid (zb[j]? = some z) := hz
            have hbl := T1.out z (List.mem_of_getElem? hz)
            have Hby : Hid (Bytes wr z.a z.bs) := hby
            clear hz hby
            go_wp2_with (fail)
            refine Calls.mono (cbuild_any z.a z.bs z.cap wr Hby.out (by omega)) ?_
            rintro e w1 ⟨v, rfl, hvn, hMv, hB1⟩
            rcases hMv with ⟨e, _⟩ | ⟨mm, N, D, rfl, hom, hFD⟩
            · exact absurd e hvn
            clear hvn
            obtain ⟨C, hC, hCs⟩ := HC.out
            have hC1 : w1.heap[we.heap.size]? = some (.cells C 46 (0, 0)) := (hB1.block _ (lt_of_heap hC)).trans hC
            have bf : w1.frozen? ⟨we.heap.size, j, none⟩ = false := by simp [World.frozen?, hC1]
            obtain ⟨u0, hu0⟩ : ∃ u, C[j]? = some u := ⟨_, Array.getElem?_eq_getElem (by omega)⟩
            have b0 : w1.cell? ⟨we.heap.size, j, none⟩ = some u0 := by rw [cell_of_row w1 _ _ _ 46 (0, 0) hC1]; exact hu0
            have HC1 : Hid _ := hC1
            have Hom : Hid (w1.ownsMap Yba.prog 9 (plainElem Yba.prog 9) mm N D) := hom
            have HFD : Hid (FD D (fOf z.bs)) := hFD
            have HS1 : Hid (Sets w1 (some ⟨we.heap.size, 0, none⟩) fs) := HSt.out.keep hB1
            have HB1 : Hid (Below we.heap.size we w1) := HBr.out.trans (Below.less hB1 HBr.out.size)
            clear hC hC1 hom hFD hB1
            go_wp2
            have hmv := maps_set (W := w1) (g := we.heap.size) (o := j) (Value.map (some mm)) HC1.out
            have hnew := heap_setCell_same w1 we.heap.size j C 46 (.map (some mm)) HC1.out
            have hfl : fs.length = j := by rw [Hfs.out]; simp; have := N1.out; omega
            have hcc : ∀ o, o ≠ j → (w1.setCell ⟨we.heap.size, j, none⟩ (.map (some mm))).cell? ⟨we.heap.size, o, none⟩ = w1.cell? ⟨we.heap.size, o, none⟩ := fun o ho => by
              rw [cell_of_row _ _ _ _ 46 (0, 0) hnew, cell_of_row w1 _ _ _ 46 (0, 0) HC1.out, Array.getElem?_setIfInBounds, if_neg (fun e => ho e.symm)]
            go_roundw
            case rel =>
              refine ⟨j + 1, fs ++ [fOf z.bs], by simp, by omega, show _ = _ by rw [Hfs.out, List.take_add_one, Hz.out]; simp [Option.toList], Sets.snoc (HS1.out.move (fun i hi => hcc i (by omega)) hmv) (m := mm) (N := N) (D := D) ?_ (ownsMap_move Hom.out hmv) HFD.out, ⟨_, hnew, by simpa using hCs⟩, HB1.out.setCell (p := ⟨we.heap.size, j, none⟩) (Nat.le_refl _) _⟩
              rw [hfl, cell_of_row _ _ _ _ 46 (0, 0) hnew, Array.getElem?_setIfInBounds, if_pos rfl, if_pos (by omega)]
            case measure => simp [intOf]; omega
          · have hje : n1 = j := by omega
            subst hje
            go_wp2
            go_meet
            refine ⟨some ⟨we.heap.size, 0, none⟩, n1, fs, ?_, show _ = _ by rw [Hfs.out, List.take_of_length_le (by rw [N1.out]; omega)], HSt.out, HBr.out⟩
            rw [show fs.length = n1 by rw [Hfs.out]; simp; have := N1.out; omega]
    case rest =>
      obtain ⟨aT, capT, fs, rfl, Hfs, HSt, HBt⟩ := hcut
      go_step
      have hfl : fs.length = n1 := by rw [Hfs.out, List.length_map, N1.out]
      have hBw : Below B W wc := HBW.out.trans (Below.less HBt.out hBs)
      rw [hfl]
      exact seg31 a0 a1 a2 aT cap0 cap1 cap2 capT gS n0 n1 n2 ty nilS fs ds zb av W wc B hBw (Nat.le_trans hBs HBt.out.size) ⟨fun j f h => by simp at h, HSt.out, HS.out.keep HBt.out, H1.out.keep HBt.out⟩ ⟨by simp, Hfs.out, Hdl.out, N1.out, l0, l1, T1.out⟩ (H2.out.keep HBt.out) N2.out l2 _ _ _ _ _ _ _ _ _ _ _ _ _ _ _ _ _ _ _ _ _ _ _ _ _ _ _ _ _ _ _ _ _ _ _ _ _ _ _ _ _ _ _ _ _ _ _ _ _ _ _ _ _ _ _ _ _ _ _ _ _ _ _ _ _ _ _ _ _ _ _ _ _ _ _ _ _ _ _ _ _ _ _ _ _ _ _ _ _ _ _ _ _ _ _ _ _ _ _ _ _ _ _ _ _ _ _ _ _ _ _ _ _ _ _ _ _ _ _ _ _ _ _ _ _ _ _ _ _ _ _ _ _ _ _ _ _ _ _ _ _ _ _ _ _ _ _ _ _ _ _ _ _ _ _ _ _ _ _ _ _ _ _ _ _ _ _ _ _ _ _ _ _ _ _ _ _ _ _ _ _ _ _ _ _ _ _ _ _ _ _ _ _ _ _ _ _ _ _ _ _ _ _ _ _ _ _ _ _ _ _ _ _ _ _ _ _ _ _ _ _ _ _ _ _ _ _ _ _ _ _ _ _ _ _ _ _ _ _ _ _ _ _ _ _ _ _ _ _ _ _ _ _ _ _ _ _ _ _ _ _ _ _ _ _ _ _ _ _ _ _ _ _ _ _ _ _ _ _ _ _ _ _ _ _ _ _ _ _ _ _ _ _ _ _ _ _ _ _ _ _ _ _ _ _ _ _ _ _ _ _ _ _ _ _ _ _ _ _ _ _ _ _ _ _ _ _ _ _ _ _ _ _ _
end Go.Proofs.Ybulkamrg
