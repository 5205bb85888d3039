/- LawS1917CPick, the last segment: every server is met just if the plain law says so. -/
import Derived.Test.YbulkamrgSeg39
namespace Go.Proofs.Ybulkamrg
open Go.RowKit Go.Maps Go.WideMaps
set_option linter.unusedSimpArgs false
set_option linter.unusedVariables false

/-- From the region i on, down the right spine; the region may begin a pair. -/
def fromR (i : Nat) : Code → Code
  | .seq (.region j ops d) b => if j = i then .seq (.region j ops d) b else fromR i b
  | .seq (.seq (.region j ops d) c) b => if j = i then .seq (.seq (.region j ops d) c) b else fromR i b
  | .seq _ b => fromR i b
  | c => c
/-- What the law's segments read. -/
structure LW (w : World) (a a1 aT : Option Addr) (gS : Nat) (ss : List ByteArray) (fs : List (Nat → Option ByteArray)) (ds : List SD) (zb : List ZB) : Prop where
  A : Strs w a ss
  S : Sets w aT fs
  D : Srvs w (some ⟨gS, 0, none⟩) ds
  Z : ZSets w a1 zb
theorem LW.keep {w w' : World} {a a1 aT : Option Addr} {gS : Nat} {ss : List ByteArray} {fs : List (Nat → Option ByteArray)} {ds : List SD} {zb : List ZB} (h : LW w a a1 aT gS ss fs ds zb) (hB : Below w.heap.size w w') : LW w' a a1 aT gS ss fs ds zb :=
  ⟨h.A.keep hB, h.S.keep hB, h.D.keep hB, h.Z.keep hB⟩
structure LP (n0 n1 : Nat) (ss : List ByteArray) (fs : List (Nat → Option ByteArray)) (ds : List SD) (zb : List ZB) : Prop where
  l : ss.length < 100000
  fs : fs = zb.map fun z => fOf z.bs
  d : ds.length = n0
  z : zb.length = n1
  n0 : n0 ≤ 256
  n1 : n1 ≤ 256
  b : ∀ z, z ∈ zb → z.bs.length ≤ 256
theorem LP.f {n0 n1 : Nat} {ss : List ByteArray} {fs : List (Nat → Option ByteArray)} {ds : List SD} {zb : List ZB} (h : LP n0 n1 ss fs ds zb) {p : Nat} {z : ZB} (hz : zb[p]? = some z) : fs[p]? = some (fOf z.bs) := by
  rw [h.fs, List.getElem?_map, hz]; rfl

set_option maxRecDepth 20000 in
set_option maxHeartbeats 4000000 in
theorem seg79 (a0 a1 a2 a aT : Option Addr) (cap0 cap1 cap2 cap capT gS n0 n1 n2 b p : Nat) (ty : Int) (nilS : Bool) (fs : List (Nat → Option ByteArray)) (ss : List ByteArray) (ds : List SD) (zb : List ZB) (z : ZB) (W w : World) (B : Nat) (hBW : Below B W w) (hBs : B ≤ w.heap.size)
    (hL : LW w a a1 aT gS ss fs ds zb) (hP : LP n0 n1 ss fs ds zb) (hz : zb[p]? = some z) (hC : Crit w b ty a ss cap (fOf z.bs))
    (u5 u6 u7 u8 u9 u10 u11 u12 u14 u16 u18 u19 u20 u24 u25 u26 u27 u28 u29 u30 u31 u32 u33 u34 u35 u36 u37 u38 u39 u40 u41 u42 u43 u44 u45 u46 u47 u48 u49 u50 u51 u52 u53 u54 u55 u56 u57 u58 u59 u60 u61 u62 u63 u64 u65 u66 u67 u68 u69 u70 u71 u72 u73 u74 u75 u76 u77 u78 u79 u80 u81 u82 u83 u84 u85 u86 u87 u88 u89 u90 u91 u92 u93 u94 u95 u96 u97 u98 u99 u100 u101 u102 u103 u104 u105 u106 u107 u108 u109 u110 u111 u112 u113 u114 u115 u116 u117 u118 u119 u120 u121 u122 u123 u124 u125 u126 u127 u128 u129 u130 u131 u132 u133 u134 u135 u136 u137 u138 u139 u140 u141 u142 u143 u144 u145 u146 u147 u148 u149 u150 u151 u152 u153 u154 u155 u156 u157 u158 u159 u160 u161 u162 u163 u164 u165 u166 u167 u168 u169 u170 u171 u172 u173 u174 u175 u176 u177 u178 u179 u180 u181 u182 u183 u184 u185 u186 u187 u188 u189 u190 u191 u192 u193 u194 u195 u196 u197 u198 u199 u200 u201 u202 u203 u204 u205 u206 u207 u208 u209 u210 u211 u212 u213 u214 u215 u216 u217 u218 u219 u220 u221 u222 u223 u224 u225 u226 u227 u228 u229 u230 u231 u232 u233 u234 u235 u236 u237 u238 u239 u240 u241 u242 u243 u244 u245 u246 u247 u248 u249 u250 u251 u252 u253 u254 u255 u256 u257 u258 u259 u260 u261 u262 u263 u264 u265 u266 u267 u268 u269 u270 u271 u272 u273 u274 u275 u276 u277 u278 u279 u280 u281 u282 u283 u284 u285 u286 u287 u288 u289 u290 u291 u292 u293 u294 u295 u296 u297 u298 u299 u300 u301 u302 u303 u304 u305 u306 u307 u308 u309 u310 u311 u312 u313 u314 u315 u316 u317 u318 u319 u320 u321 u322 u323 u324 u325 u326 u327 u328 u329 u330 u331 u332 u333 u334 u335 u336 u337 u338 u339 u340 : Value) :
    (fromR 79 (Yba.f3.body.getD .skip)).wp Yba.prog (bodyPost Yba.prog Yba.f3 fun e w' => e = .returned (.bool true) ∧ Below B W w') { tmps := #[.slice a0 n0 cap0, .slice a1 n1 cap1, .slice a2 n2 cap2, .int .u16 ty, .bool nilS, u5, u6, u7, u8, u9, u10, u11, u12, .slice (some ⟨gS, 0, none⟩) n0 n0, u14, .slice aT n1 capT, u16, .slice a ss.length cap, u18, u19, u20, .int .u16 ty, .pointer (some ⟨b, 0, none⟩), .int .i64 p, u24, u25, u26, u27, u28, u29, u30, u31, u32, u33, u34, u35, u36, u37, u38, u39, u40, u41, u42, u43, u44, u45, u46, u47, u48, u49, u50, u51, u52, u53, u54, u55, u56, u57, u58, u59, u60, u61, u62, u63, u64, u65, u66, u67, u68, u69, u70, u71, u72, u73, u74, u75, u76, u77, u78, u79, u80, u81, u82, u83, u84, u85, u86, u87, u88, u89, u90, u91, u92, u93, u94, u95, u96, u97, u98, u99, u100, u101, u102, u103, u104, u105, u106, u107, u108, u109, u110, u111, u112, u113, u114, u115, u116, u117, u118, u119, u120, u121, u122, u123, u124, u125, u126, u127, u128, u129, u130, u131, u132, u133, u134, u135, u136, u137, u138, u139, u140, u141, u142, u143, u144, u145, u146, u147, u148, u149, u150, u151, u152, u153, u154, u155, u156, u157, u158, u159, u160, u161, u162, u163, u164, u165, u166, u167, u168, u169, u170, u171, u172, u173, u174, u175, u176, u177, u178, u179, u180, u181, u182, u183, u184, u185, u186, u187, u188, u189, u190, u191, u192, u193, u194, u195, u196, u197, u198, u199, u200, u201, u202, u203, u204, u205, u206, u207, u208, u209, u210, u211, u212, u213, u214, u215, u216, u217, u218, u219, u220, u221, u222, u223, u224, u225, u226, u227, u228, u229, u230, u231, u232, u233, u234, u235, u236, u237, u238, u239, u240, u241, u242, u243, u244, u245, u246, u247, u248, u249, u250, u251, u252, u253, u254, u255, u256, u257, u258, u259, u260, u261, u262, u263, u264, u265, u266, u267, u268, u269, u270, u271, u272, u273, u274, u275, u276, u277, u278, u279, u280, u281, u282, u283, u284, u285, u286, u287, u288, u289, u290, u291, u292, u293, u294, u295, u296, u297, u298, u299, u300, u301, u302, u303, u304, u305, u306, u307, u308, u309, u310, u311, u312, u313, u314, u315, u316, u317, u318, u319, u320, u321, u322, u323, u324, u325, u326, u327, u328, u329, u330, u331, u332, u333, u334, u335, u336, u337, u338, u339, u340], defers := [] } w := by
  have HBW : Hid (Below B W w) := hBW
  have HL : Hid (LW w a a1 aT gS ss fs ds zb) := hL
  have HP : Hid (LP n0 n1 ss fs ds zb) := hP
  have Hz : Hid (zb[p]? = some z) := hz
  have HC : Hid (Crit w b ty a ss cap (fOf z.bs)) := hC
  have hn0 := hP.n0
  have hn1 := hP.n1
  have hp1 : p < n1 := by rw [← hP.z]; exact (List.getElem?_eq_some_iff.1 hz).1
  obtain ⟨xz, hxz⟩ : ∃ x, a1 = some x := by obtain ⟨_, x, h, _⟩ := hL.Z p z hz; exact ⟨x, h⟩
  obtain ⟨xt, hxt⟩ : ∃ x, aT = some x := by obtain ⟨x, h, _⟩ := hL.S p _ (hP.f hz); exact ⟨x, h⟩
  subst hxz hxt
  clear hBW hL hP hz hC
  conv in fromR _ _ => whnf
  go_wp2
  go_loopw [318] (fun i wr => ∃ j : Nat, i = .int .i64 j ∧ j ≤ n0 ∧ Hid (Below w.heap.size w wr)) (fun i _ => n0 - (intOf i).toNat)
  case atStart => exact ⟨0, rfl, by omega, Below.refl _ _⟩
  case round =>
    obtain ⟨j, rfl, hj, HBr⟩ := hrel
    by_cases hlt : j < n0
    · have j1 : (j : Int) < (n0 : Int) := by omega
      obtain ⟨d, hd⟩ : ∃ d, ds[j]? = some d := ⟨_, List.getElem?_eq_getElem (by rw [HP.out.d]; exact hlt)⟩
      obtain ⟨g', hg', hsv0⟩ := HL.out.D j d hd
      have hgg : gS = g' := by injection hg' with e; injection e
      subst hgg
      obtain ⟨hby0, x', hx', hcz0⟩ := HL.out.Z p z Hz.out
      have e1 : xz = x' := by injection hx'
      subst e1
      obtain ⟨y', hy', m, N, D, hct0, hom0, hFD⟩ := HL.out.S p _ (HP.out.f Hz.out)
      have e2 : xt = y' := by injection hy'
      subst e2
      have hcz := Below.cellAt HBr.out hcz0
      have hct := Below.cellAt HBr.out hct0
      have hzl := HP.out.b z (List.mem_of_getElem? Hz.out)
      have Hsv : Hid (Srv w gS (j * 23) d.ad d.t d.vT d.fT) := hsv0
      have Hby : Hid (Bytes w z.a z.bs) := hby0
      have Hom : Hid (w.ownsMap Yba.prog 9 (plainElem Yba.prog 9) m N D) := hom0
      have HFD : Hid (FD D (fOf z.bs)) := hFD
      have hcm : ∀ w1, Below w.heap.size w w1 → Calls Yba.prog 8 #[.pointer (some ⟨gS, j * 23, none⟩), .int .u16 ty, .slice a ss.length cap, .slice z.a z.bs.length z.cap, .map (some m)] w1 fun e w' => e = .returned (.bool (meets ty ss (fOf z.bs) d.ad d.t d.fT)) ∧ w' = w1 := fun w1 hB =>
        cm_any gS (j * 23) cap z.cap d.t ty a z.a ss z.bs d.fT d.ad d.vT (.map (some m)) w1 (HL.out.A.keep hB) HP.out.l (hby0.keep hB) (by omega) (hsv0.keep hB) (.inr ⟨m, N, D, rfl, ownsMap_heap hom0 (hB.block m hom0.lt), hFD⟩)
      have hme : ∀ w1, Below w.heap.size w w1 → Calls Yba.prog 9 #[.pointer (some ⟨b, 0, none⟩), .pointer (some ⟨gS, j * 23, none⟩)] w1 fun e w' => e = .returned (.bool (meets ty ss (fOf z.bs) d.ad d.t d.fT)) ∧ Below w1.heap.size w1 w' := fun w1 hB =>
        met_any b gS (j * 23) cap d.t ty a ss (fOf z.bs) d.fT d.ad d.vT w1 (HC.out.keep hB) (hsv0.keep hB)
      generalize meets ty ss (fOf z.bs) d.ad d.t d.fT = r at hcm hme
      have Hcm : Hid _ := hcm
      have Hme : Hid _ := hme
      have hp0 : (p : Int) < (n1 : Int) := by omega
      clear hcm hme hsv0 hby0 hom0 hFD hcz0 hct0 hd hg' hx' hy'
      go_wp2
      refine region_late (S := fun w' => w'.cell? (xz.add p) = some (.slice z.a z.bs.length z.cap) ∧ w'.cell? (xt.add p) = some (.map (some m))) (late := fun _ => false) (by kernel_rfl) ?_
      have HSn : wr.drew.cell? (xz.add p) = some (.slice z.a z.bs.length z.cap) ∧ wr.drew.cell? (xt.add p) = some (.map (some m)) := ⟨hcz, hct⟩
      have HBd : Hid (Below w.heap.size w wr.drew) := HBr.out.drew
      refine anyLate_takeW (i := 0) (v := .slice (some ⟨gS, 0, none⟩) n0 n0) rfl (by kernel_rfl) (by kernel_rfl) (by kernel_rfl) (fun _ _ _ h => h) (.inl ⟨by kernel_rfl, fun w _ => by go_simp⟩) ?_
      simp only [Act.put, List.setIfInBounds_toArray, List.set_cons_zero, List.set_cons_succ]
      refine anyLate_takeW (i := 1) (v := .int .i64 j) rfl (by kernel_rfl) (by kernel_rfl) (by kernel_rfl) (fun _ _ _ h => h) (.inl ⟨by kernel_rfl, fun w _ => by go_simp⟩) ?_
      simp only [Act.put, List.setIfInBounds_toArray, List.set_cons_zero, List.set_cons_succ]
      refine anyLate_takeW (i := 2) (v := .pointer (some ⟨gS, j * 23, none⟩)) rfl (by kernel_rfl) (by kernel_rfl) (by kernel_rfl) (fun _ _ _ h => h) (.inl ⟨by kernel_rfl, fun w _ => by go_simp⟩) ?_
      simp only [Act.put, List.setIfInBounds_toArray, List.set_cons_zero, List.set_cons_succ]
      refine anyLate_takeW (i := 4) (v := .slice (some ⟨gS, 0, none⟩) n0 n0) rfl (by kernel_rfl) (by kernel_rfl) (by kernel_rfl) (fun _ _ _ h => h) (.inl ⟨by kernel_rfl, fun w _ => by go_simp⟩) ?_
      simp only [Act.put, List.setIfInBounds_toArray, List.set_cons_zero, List.set_cons_succ]
      refine anyLate_takeW (i := 5) (v := .int .i64 j) rfl (by kernel_rfl) (by kernel_rfl) (by kernel_rfl) (fun _ _ _ h => h) (.inl ⟨by kernel_rfl, fun w _ => by go_simp⟩) ?_
      simp only [Act.put, List.setIfInBounds_toArray, List.set_cons_zero, List.set_cons_succ]
      refine anyLate_takeW (i := 6) (v := .pointer (some ⟨gS, j * 23, none⟩)) rfl (by kernel_rfl) (by kernel_rfl) (by kernel_rfl) (fun _ _ _ h => h) (.inl ⟨by kernel_rfl, fun w _ => by go_simp⟩) ?_
      simp only [Act.put, List.setIfInBounds_toArray, List.set_cons_zero, List.set_cons_succ]
      refine anyLate_takeW (i := 7) (v := .int .u16 ty) rfl (by kernel_rfl) (by kernel_rfl) (by kernel_rfl) (fun _ _ _ h => h) (.inl ⟨by kernel_rfl, fun w _ => by go_simp⟩) ?_
      simp only [Act.put, List.setIfInBounds_toArray, List.set_cons_zero, List.set_cons_succ]
      refine anyLate_takeW (i := 8) (v := .slice a ss.length cap) rfl (by kernel_rfl) (by kernel_rfl) (by kernel_rfl) (fun _ _ _ h => h) (.inl ⟨by kernel_rfl, fun w _ => by go_simp⟩) ?_
      simp only [Act.put, List.setIfInBounds_toArray, List.set_cons_zero, List.set_cons_succ]
      refine anyLate_takeW (i := 9) (v := .slice (some xz) n1 cap1) rfl (by kernel_rfl) (by kernel_rfl) (by kernel_rfl) (fun _ _ _ h => h) (.inl ⟨by kernel_rfl, fun w _ => by go_simp⟩) ?_
      simp only [Act.put, List.setIfInBounds_toArray, List.set_cons_zero, List.set_cons_succ]
      refine anyLate_takeW (i := 10) (v := .int .i64 p) rfl (by kernel_rfl) (by kernel_rfl) (by kernel_rfl) (fun _ _ _ h => h) (.inl ⟨by kernel_rfl, fun w _ => by go_simp⟩) ?_
      simp only [Act.put, List.setIfInBounds_toArray, List.set_cons_zero, List.set_cons_succ]
      refine anyLate_takeW (i := 11) (v := .pointer (some (xz.add p))) rfl (by kernel_rfl) (by kernel_rfl) (by kernel_rfl) (fun _ _ _ h => h) (.inl ⟨by kernel_rfl, fun w _ => by go_simp⟩) ?_
      simp only [Act.put, List.setIfInBounds_toArray, List.set_cons_zero, List.set_cons_succ]
      refine anyLate_take (i := 12) (v := .slice z.a z.bs.length z.cap) rfl (by kernel_rfl) (by kernel_rfl) (by kernel_rfl) (fun _ _ _ h => h) rfl (by kernel_rfl) (.inl ⟨by kernel_rfl, fun w hSw => by (obtain ⟨s1, s2⟩ := hSw; go_simp)⟩) HSn ?_
      simp only [Act.put, List.setIfInBounds_toArray, List.set_cons_zero, List.set_cons_succ]
      refine anyLate_takeW (i := 13) (v := .slice (some xt) n1 capT) rfl (by kernel_rfl) (by kernel_rfl) (by kernel_rfl) (fun _ _ _ h => h) (.inl ⟨by kernel_rfl, fun w _ => by go_simp⟩) ?_
      simp only [Act.put, List.setIfInBounds_toArray, List.set_cons_zero, List.set_cons_succ]
      refine anyLate_takeW (i := 14) (v := .int .i64 p) rfl (by kernel_rfl) (by kernel_rfl) (by kernel_rfl) (fun _ _ _ h => h) (.inl ⟨by kernel_rfl, fun w _ => by go_simp⟩) ?_
      simp only [Act.put, List.setIfInBounds_toArray, List.set_cons_zero, List.set_cons_succ]
      refine anyLate_takeW (i := 15) (v := .pointer (some (xt.add p))) rfl (by kernel_rfl) (by kernel_rfl) (by kernel_rfl) (fun _ _ _ h => h) (.inl ⟨by kernel_rfl, fun w _ => by go_simp⟩) ?_
      simp only [Act.put, List.setIfInBounds_toArray, List.set_cons_zero, List.set_cons_succ]
      refine anyLate_take (i := 16) (v := .map (some m)) rfl (by kernel_rfl) (by kernel_rfl) (by kernel_rfl) (fun _ _ _ h => h) rfl (by kernel_rfl) (.inl ⟨by kernel_rfl, fun w hSw => by (obtain ⟨s1, s2⟩ := hSw; go_simp)⟩) HSn ?_
      simp only [Act.put, List.setIfInBounds_toArray, List.set_cons_zero, List.set_cons_succ]
      refine anyLate_ready (rs := [3]) (by kernel_rfl) (by simp) ?_
      refine AllLate.cons rfl (fun K' hK' => ?_) AllLate.nil
      · go_simp
        refine Calls.mono (Hme.out _ HBd.out) ?_
        rintro e w2 ⟨rfl, hB2⟩
        have HB2 : Hid (Below w.heap.size w w2) := HBd.out.trans (Below.less hB2 HBd.out.size)
        refine hK'.out _ _ (fun _ _ => ⟨Below.cellAt hB2 HSn.1, Below.cellAt hB2 HSn.2⟩) ?_
        clear hK' hB2 HSn
        try simp only [Act.put, List.setIfInBounds_toArray, List.set_cons_zero, List.set_cons_succ]
        refine anyLate_ready (rs := [17]) (by kernel_rfl) (by simp) ?_
        refine AllLate.cons rfl (fun K' hK' => ?_) AllLate.nil
        go_simp
        refine Calls.mono (Hcm.out _ HB2.out) ?_
        rintro e w3 ⟨rfl, hw3⟩
        subst hw3
        refine hK'.out _ _ (fun _ h => h) ?_
        clear hK'
        try simp only [Act.put, List.setIfInBounds_toArray, List.set_cons_zero, List.set_cons_succ]
        refine anyLate_takeW (i := 18) (v := .bool false) rfl (by kernel_rfl) (by kernel_rfl) (by kernel_rfl) (fun _ _ _ h => h) (.inl ⟨by kernel_rfl, fun w _ => by go_simp⟩) ?_
        simp only [Act.put, List.setIfInBounds_toArray, List.set_cons_zero, List.set_cons_succ]
        refine anyLate_done (by kernel_rfl) ?_ _
        go_wp2
        go_roundw
        case rel => exact ⟨j + 1, by simp, by omega, HB2⟩
        case measure => simp [intOf]; omega
    · have hje : j = n0 := by omega
      subst hje
      go_wp2
      go_ret
      exact ⟨rfl, HBW.out.trans (Below.less HBr.out hBs)⟩
end Go.Proofs.Ybulkamrg
