/- LawS1917CPick from region 31 on: the addresses to avoid. -/
import Derived.Test.YbulkamrgLawE
namespace Go.Proofs.Ybulkamrg
open Go.RowKit Go.Maps Go.WideMaps
set_option linter.unusedSimpArgs false
set_option linter.unusedVariables false

set_option maxRecDepth 20000 in
set_option maxHeartbeats 4000000 in
theorem seg31 (a0 a1 a2 aT : Option Addr) (cap0 cap1 cap2 capT gS n0 n1 n2 : Nat) (ty : Int) (nilS : Bool) (fs : List (Nat → Option ByteArray)) (ds : List SD) (zb : List ZB) (av : List Nat) (W w : World) (B : Nat) (hBW : Below B W w) (hBs : B ≤ w.heap.size)
    (hL : LW w none a1 aT gS [] fs ds zb) (hP : LP n0 n1 [] fs ds zb) (h2 : Bytes w a2 av) (hn2 : av.length = n2) (l2 : n2 ≤ 256)
    (u5 u6 u7 u8 u9 u10 u11 u12 u14 u16 u17 u18 u19 u20 u21 u22 u23 u24 u25 u26 u27 u28 u29 u30 u31 u32 u33 u34 u35 u36 u37 u38 u39 u40 u41 u42 u43 u44 u45 u46 u47 u48 u49 u50 u51 u52 u53 u54 u55 u56 u57 u58 u59 u60 u61 u62 u63 u64 u65 u66 u67 u68 u69 u70 u71 u72 u73 u74 u75 u76 u77 u78 u79 u80 u81 u82 u83 u84 u85 u86 u87 u88 u89 u90 u91 u92 u93 u94 u95 u96 u97 u98 u99 u100 u101 u102 u103 u104 u105 u106 u107 u108 u109 u110 u111 u112 u113 u114 u115 u116 u117 u118 u119 u120 u121 u122 u123 u124 u125 u126 u127 u128 u129 u130 u131 u132 u133 u134 u135 u136 u137 u138 u139 u140 u141 u142 u143 u144 u145 u146 u147 u148 u149 u150 u151 u152 u153 u154 u155 u156 u157 u158 u159 u160 u161 u162 u163 u164 u165 u166 u167 u168 u169 u170 u171 u172 u173 u174 u175 u176 u177 u178 u179 u180 u181 u182 u183 u184 u185 u186 u187 u188 u189 u190 u191 u192 u193 u194 u195 u196 u197 u198 u199 u200 u201 u202 u203 u204 u205 u206 u207 u208 u209 u210 u211 u212 u213 u214 u215 u216 u217 u218 u219 u220 u221 u222 u223 u224 u225 u226 u227 u228 u229 u230 u231 u232 u233 u234 u235 u236 u237 u238 u239 u240 u241 u242 u243 u244 u245 u246 u247 u248 u249 u250 u251 u252 u253 u254 u255 u256 u257 u258 u259 u260 u261 u262 u263 u264 u265 u266 u267 u268 u269 u270 u271 u272 u273 u274 u275 u276 u277 u278 u279 u280 u281 u282 u283 u284 u285 u286 u287 u288 u289 u290 u291 u292 u293 u294 u295 u296 u297 u298 u299 u300 u301 u302 u303 u304 u305 u306 u307 u308 u309 u310 u311 u312 u313 u314 u315 u316 u317 u318 u319 u320 u321 u322 u323 u324 u325 u326 u327 u328 u329 u330 u331 u332 u333 u334 u335 u336 u337 u338 u339 u340 : Value) :
    (fromR 31 (Yba.f3.body.getD .skip)).wp Yba.prog (bodyPost Yba.prog Yba.f3 fun e w' => e = .returned (.bool true) ∧ Below B W w') { tmps := #[.slice a0 n0 cap0, .slice a1 n1 cap1, .slice a2 n2 cap2, .int .u16 ty, .bool nilS, u5, u6, u7, u8, u9, u10, u11, u12, .slice (some ⟨gS, 0, none⟩) n0 n0, u14, .slice aT n1 capT, u16, u17, u18, u19, u20, u21, u22, u23, u24, u25, u26, u27, u28, u29, u30, u31, u32, u33, u34, u35, u36, u37, u38, u39, u40, u41, u42, u43, u44, u45, u46, u47, u48, u49, u50, u51, u52, u53, u54, u55, u56, u57, u58, u59, u60, u61, u62, u63, u64, u65, u66, u67, u68, u69, u70, u71, u72, u73, u74, u75, u76, u77, u78, u79, u80, u81, u82, u83, u84, u85, u86, u87, u88, u89, u90, u91, u92, u93, u94, u95, u96, u97, u98, u99, u100, u101, u102, u103, u104, u105, u106, u107, u108, u109, u110, u111, u112, u113, u114, u115, u116, u117, u118, u119, u120, u121, u122, u123, u124, u125, u126, u127, u128, u129, u130, u131, u132, u133, u134, u135, u136, u137, u138, u139, u140, u141, u142, u143, u144, u145, u146, u147, u148, u149, u150, u151, u152, u153, u154, u155, u156, u157, u158, u159, u160, u161, u162, u163, u164, u165, u166, u167, u168, u169, u170, u171, u172, u173, u174, u175, u176, u177, u178, u179, u180, u181, u182, u183, u184, u185, u186, u187, u188, u189, u190, u191, u192, u193, u194, u195, u196, u197, u198, u199, u200, u201, u202, u203, u204, u205, u206, u207, u208, u209, u210, u211, u212, u213, u214, u215, u216, u217, u218, u219, u220, u221, u222, u223, u224, u225, u226, u227, u228, u229, u230, u231, u232, u233, u234, u235, u236, u237, u238, u239, u240, u241, u242, u243, u244, u245, u246, u247, u248, u249, u250, u251, u252, u253, u254, u255, u256, u257, u258, u259, u260, u261, u262, u263, u264, u265, u266, u267, u268, u269, u270, u271, u272, u273, u274, u275, u276, u277, u278, u279, u280, u281, u282, u283, u284, u285, u286, u287, u288, u289, u290, u291, u292, u293, u294, u295, u296, u297, u298, u299, u300, u301, u302, u303, u304, u305, u306, u307, u308, u309, u310, u311, u312, u313, u314, u315, u316, u317, u318, u319, u320, u321, u322, u323, u324, u325, u326, u327, u328, u329, u330, u331, u332, u333, u334, u335, u336, u337, u338, u339, u340], defers := [] } w := by
  have HBW : Hid (Below B W w) := hBW
  have HL : Hid (LW w none a1 aT gS [] fs ds zb) := hL
  have HP : Hid (LP n0 n1 [] fs ds zb) := hP
  have H2 : Hid (Bytes w a2 av) := h2
  have N2 : Hid (av.length = n2) := hn2
  clear hBW hL hP h2 hn2
  obtain ⟨wd, hwd⟩ : ∃ wd : World, wd = w := ⟨_, rfl⟩
  subst hwd
  conv in fromR _ _ => whnf
  go_upto_if 139 with (fail)
  go_cut [17, 18, 19] from 137 (fun s _ _ wc => ∃ (a : Option Addr) (cap : Nat) (ss : List ByteArray), s = .slice a ss.length cap ∧ Hid (ss.length = n2) ∧ Hid (Strs wc a ss) ∧ Hid (Below wd.heap.size wd wc))
  case first =>
    by_cases h2 : n2 = 0
    · have h2' : ¬ (0 : Int) < (n2 : Int) := by omega
      have H2z : Hid _ := h2
      clear h2
      go_wp2
      go_meet
      exact ⟨none, 0, [], rfl, H2z.out.symm, show Strs _ _ _ from fun j f h => by simp at h, Below.refl _ _⟩
    · rw [show decide (0 < n2) = true from decide_eq_true (by omega)]
      have h2' : (0 : Int) < (n2 : Int) := by omega
      clear h2
      obtain ⟨C0, hC0, hmk⟩ := make9 n2 l2 wd
      go_wp2
      clear hmk
      generalize hw0 : wd.alloc (.cells C0 9 (0, 0)) = w0
      have HB0 : Hid (Below wd.heap.size wd w0) := by rw [← hw0]; exact (Below.refl _ _).alloc (Nat.le_refl _) _
      have HC0 : Hid (∃ C, w0.heap[wd.heap.size]? = some (.cells C 9 (0, 0)) ∧ C.size = n2) := ⟨C0, by rw [← hw0]; exact (MapKept.heap_alloc _ _).1, hC0⟩
      clear hw0 hC0
      go_loopw [145] (fun i wr => ∃ (j : Nat) (ss : List ByteArray), i = .int .i64 j ∧ j ≤ n2 ∧ Hid (ss = (av.take j).map fun b => ads (b % 3)) ∧ Hid (Strs wr (some ⟨wd.heap.size, 0, none⟩) ss) ∧
          Hid (∃ C, wr.heap[wd.heap.size]? = some (.cells C 9 (0, 0)) ∧ C.size = n2) ∧ Hid (Below wd.heap.size wd wr)) (fun i _ => n2 - (intOf i).toNat)
      case atStart => exact ⟨0, [], rfl, by omega, show _ = _ by simp, show Strs _ _ _ from fun j f h => by simp at h, HC0, HB0⟩
      case round =>
        obtain ⟨j, ss, rfl, hj, Hss, HSs, HC, HBr⟩ := hrel
        by_cases hlt : j < n2
        · have j1 : (j : Int) < (n2 : Int) := by omega
          obtain ⟨b, hb⟩ : ∃ b, av[j]? = some b := ⟨_, List.getElem?_eq_getElem (by rw [N2.out]; exact hlt)⟩
          obtain ⟨hb256, x, hx, c0⟩ := (H2.out.keep HBr.out) j b hb
          subst hx
          have Hb : Hid (av[j]? = some b) := hb
          obtain ⟨C, hC, hCs⟩ := HC.out
          have bf : wr.frozen? ⟨wd.heap.size, j, none⟩ = false := by simp [World.frozen?, hC]
          obtain ⟨u0, hu0⟩ : ∃ u, C[j]? = some u := ⟨_, Array.getElem?_eq_getElem (by omega)⟩
          have b0 : wr.cell? ⟨wd.heap.size, j, none⟩ = some u0 := by rw [cell_of_row wr _ _ _ 9 (0, 0) hC]; exact hu0
          have HC1 : Hid (wr.heap[wd.heap.size]? = some (.cells C 9 (0, 0))) := hC
          clear hC hb
          go_wp2_with (go_at_call 4; refine (caddr_any b hb256 _).mono ?_; rintro e w' ⟨rfl, hw'⟩; subst w')
          have hnew := heap_setCell_same wr wd.heap.size j C 9 (.string (ads (b % 3))) HC1.out
          have hsl : ss.length = j := by rw [Hss.out]; simp; have := N2.out; omega
          have hcc : ∀ o, o ≠ j → (wr.setCell ⟨wd.heap.size, j, none⟩ (.string (ads (b % 3)))).cell? ⟨wd.heap.size, o, none⟩ = wr.cell? ⟨wd.heap.size, o, none⟩ := fun o ho => by
            rw [cell_of_row _ _ _ _ 9 (0, 0) hnew, cell_of_row wr _ _ _ 9 (0, 0) HC1.out, Array.getElem?_setIfInBounds, if_neg (fun e => ho e.symm)]
          go_roundw
          case rel =>
            refine ⟨j + 1, ss ++ [ads (b % 3)], by simp, by omega, show _ = _ by rw [Hss.out, List.take_add_one, Hb.out]; simp [Option.toList], show Strs _ _ _ from fun i s hs => ?_, ⟨_, hnew, by simpa using hCs⟩, HBr.out.setCell (p := ⟨wd.heap.size, j, none⟩) (Nat.le_refl _) _⟩
            refine ⟨_, rfl, ?_⟩
            rw [add0]
            by_cases hi : i = j
            · subst hi
              have : s = ads (b % 3) := by
                rw [← hsl] at hs; simpa using hs.symm
              rw [this, cell_of_row _ _ _ _ 9 (0, 0) hnew, Array.getElem?_setIfInBounds, if_pos rfl, if_pos (by omega)]
            · have hlt2 : i < ss.length := by
                have := (List.getElem?_eq_some_iff.1 hs).1
                simp at this; omega
              rw [List.getElem?_append_left hlt2] at hs
              obtain ⟨y, hy, hcy⟩ := HSs.out i s hs
              have : y = ⟨wd.heap.size, 0, none⟩ := by injection hy with hy; exact hy.symm
              subst this
              rw [add0] at hcy
              rw [hcc i hi]; exact hcy
          case measure => simp [intOf]; omega
        · have hje : n2 = j := by omega
          subst hje
          go_wp2
          go_meet
          have hsl : ss.length = n2 := by rw [Hss.out]; simp; have := N2.out; omega
          refine ⟨some ⟨wd.heap.size, 0, none⟩, n2, ss, ?_, hsl, HSs.out, HBr.out⟩
          rw [hsl]
  case rest =>
    obtain ⟨a, cap, ss, rfl, Hss, HSs, HBs⟩ := hcut
    rename_i hK
    refine hK _ _ ?_
    clear hK
    have hBw : Below B W wc := HBW.out.trans (Below.less HBs.out hBs)
    have hsz := Nat.le_trans hBs HBs.out.size
    have hl : ss.length < 100000 := by rw [Hss.out]; omega
    have hp := HP.out
    have hk := HL.out.keep HBs.out
    by_cases hn : n1 = 0
    · subst hn
      exact seg39_none a0 a1 a2 a aT cap0 cap1 cap2 cap capT gS n0 0 n2 ty nilS fs ss ds W wc B hBw hsz HSs.out hl _ _ _ _ _ _ _ _ _ _ _ _ _ _ _ _ _ _ _ _ _ _ _ _ _ _ _ _ _ _ _ _ _ _ _ _ _ _ _ _ _ _ _ _ _ _ _ _ _ _ _ _ _ _ _ _ _ _ _ _ _ _ _ _ _ _ _ _ _ _ _ _ _ _ _ _ _ _ _ _ _ _ _ _ _ _ _ _ _ _ _ _ _ _ _ _ _ _ _ _ _ _ _ _ _ _ _ _ _ _ _ _ _ _ _ _ _ _ _ _ _ _ _ _ _ _ _ _ _ _ _ _ _ _ _ _ _ _ _ _ _ _ _ _ _ _ _ _ _ _ _ _ _ _ _ _ _ _ _ _ _ _ _ _ _ _ _ _ _ _ _ _ _ _ _ _ _ _ _ _ _ _ _ _ _ _ _ _ _ _ _ _ _ _ _ _ _ _ _ _ _ _ _ _ _ _ _ _ _ _ _ _ _ _ _ _ _ _ _ _ _ _ _ _ _ _ _ _ _ _ _ _ _ _ _ _ _ _ _ _ _ _ _ _ _ _ _ _ _ _ _ _ _ _ _ _ _ _ _ _ _ _ _ _ _ _ _ _ _ _ _ _ _ _ _ _ _ _ _ _ _ _ _ _ _ _ _ _ _ _ _ _ _ _ _ _ _ _ _ _ _ _ _ _ _ _ _ _ _ _ _ _ _ _ _ _ _ _ _ _ _ _ _ _ _ _ _ _ _ _ _ _ _
    · exact seg39_sets a0 a1 a2 a aT cap0 cap1 cap2 cap capT gS n0 n1 n2 ty nilS fs ss ds zb W wc B hBw hsz ⟨HSs.out, hk.S, hk.D, hk.Z⟩ ⟨hl, hp.fs, hp.d, hp.z, hp.n0, hp.n1, hp.b⟩ (by omega) _ _ _ _ _ _ _ _ _ _ _ _ _ _ _ _ _ _ _ _ _ _ _ _ _ _ _ _ _ _ _ _ _ _ _ _ _ _ _ _ _ _ _ _ _ _ _ _ _ _ _ _ _ _ _ _ _ _ _ _ _ _ _ _ _ _ _ _ _ _ _ _ _ _ _ _ _ _ _ _ _ _ _ _ _ _ _ _ _ _ _ _ _ _ _ _ _ _ _ _ _ _ _ _ _ _ _ _ _ _ _ _ _ _ _ _ _ _ _ _ _ _ _ _ _ _ _ _ _ _ _ _ _ _ _ _ _ _ _ _ _ _ _ _ _ _ _ _ _ _ _ _ _ _ _ _ _ _ _ _ _ _ _ _ _ _ _ _ _ _ _ _ _ _ _ _ _ _ _ _ _ _ _ _ _ _ _ _ _ _ _ _ _ _ _ _ _ _ _ _ _ _ _ _ _ _ _ _ _ _ _ _ _ _ _ _ _ _ _ _ _ _ _ _ _ _ _ _ _ _ _ _ _ _ _ _ _ _ _ _ _ _ _ _ _ _ _ _ _ _ _ _ _ _ _ _ _ _ _ _ _ _ _ _ _ _ _ _ _ _ _ _ _ _ _ _ _ _ _ _ _ _ _ _ _ _ _ _ _ _ _ _ _ _ _ _ _ _ _ _ _ _ _ _ _ _ _ _ _ _ _ _ _ _ _ _ _ _ _ _ _ _ _ _ _ _ _ _ _ _ _ _ _
end Go.Proofs.Ybulkamrg
