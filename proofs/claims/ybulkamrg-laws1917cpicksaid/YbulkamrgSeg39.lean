/- LawS1917CPick from region 39 on. -/
import Derived.Test.YbulkamrgLawLib
namespace Go.Proofs.Ybulkamrg
open Go.RowKit Go.Maps Go.WideMaps
set_option linter.unusedSimpArgs false
set_option linter.unusedVariables false
attribute [-simp] Yba.zeroValue59 Yba.typeInfo59
attribute [local simp] zero59
theorem eqP (w : World) : (Op.equalIn 9998 34 (.pointer none) (.pointer none)).run Yba.prog w = .ok true w := by kernel_rfl
theorem eql_none (w : World) : (binOp .eql 46 (.map none) (.map none)).run Yba.prog w = .ok (.bool true) w := by kernel_rfl
/-- From the region i on, down the right spine. -/
def fromRegion (i : Nat) : Code → Code
  | .seq (.region j ops d) b => if j = i then .seq (.region j ops d) b else fromRegion i b
  | .seq _ b => fromRegion i b
  | c => c
set_option maxRecDepth 20000 in
set_option maxHeartbeats 4000000 in
theorem seg39_none (a0 a1 a2 a aT : Option Addr) (cap0 cap1 cap2 cap capT gS n0 n1 n2 : Nat) (ty : Int) (nilS : Bool) (fs : List (Nat → Option ByteArray)) (ss : List ByteArray) (ds : List SD) (W w : World) (B : Nat) (hBW : Below B W w) (hBs : B ≤ w.heap.size) (hA : Strs w a ss) (hl : ss.length < 100000)
    (u5 u6 u7 u8 u9 u10 u11 u12 u14 u16 u18 u19 u20 u21 u22 u23 u24 u25 u26 u27 u28 u29 u30 u31 u32 u33 u34 u35 u36 u37 u38 u39 u40 u41 u42 u43 u44 u45 u46 u47 u48 u49 u50 u51 u52 u53 u54 u55 u56 u57 u58 u59 u60 u61 u62 u63 u64 u65 u66 u67 u68 u69 u70 u71 u72 u73 u74 u75 u76 u77 u78 u79 u80 u81 u82 u83 u84 u85 u86 u87 u88 u89 u90 u91 u92 u93 u94 u95 u96 u97 u98 u99 u100 u101 u102 u103 u104 u105 u106 u107 u108 u109 u110 u111 u112 u113 u114 u115 u116 u117 u118 u119 u120 u121 u122 u123 u124 u125 u126 u127 u128 u129 u130 u131 u132 u133 u134 u135 u136 u137 u138 u139 u140 u141 u142 u143 u144 u145 u146 u147 u148 u149 u150 u151 u152 u153 u154 u155 u156 u157 u158 u159 u160 u161 u162 u163 u164 u165 u166 u167 u168 u169 u170 u171 u172 u173 u174 u175 u176 u177 u178 u179 u180 u181 u182 u183 u184 u185 u186 u187 u188 u189 u190 u191 u192 u193 u194 u195 u196 u197 u198 u199 u200 u201 u202 u203 u204 u205 u206 u207 u208 u209 u210 u211 u212 u213 u214 u215 u216 u217 u218 u219 u220 u221 u222 u223 u224 u225 u226 u227 u228 u229 u230 u231 u232 u233 u234 u235 u236 u237 u238 u239 u240 u241 u242 u243 u244 u245 u246 u247 u248 u249 u250 u251 u252 u253 u254 u255 u256 u257 u258 u259 u260 u261 u262 u263 u264 u265 u266 u267 u268 u269 u270 u271 u272 u273 u274 u275 u276 u277 u278 u279 u280 u281 u282 u283 u284 u285 u286 u287 u288 u289 u290 u291 u292 u293 u294 u295 u296 u297 u298 u299 u300 u301 u302 u303 u304 u305 u306 u307 u308 u309 u310 u311 u312 u313 u314 u315 u316 u317 u318 u319 u320 u321 u322 u323 u324 u325 u326 u327 u328 u329 u330 u331 u332 u333 u334 u335 u336 u337 u338 u339 u340 : Value) :
    (fromRegion 39 (Yba.f3.body.getD .skip)).wp Yba.prog (bodyPost Yba.prog Yba.f3 fun e w' => e = .returned (.bool true) ∧ Below B W w') { tmps := #[.slice a0 n0 cap0, .slice a1 n1 cap1, .slice a2 n2 cap2, .int .u16 ty, .bool nilS, u5, u6, u7, u8, u9, u10, u11, u12, .slice (some ⟨gS, 0, none⟩) n0 n0, u14, .slice aT 0 capT, u16, .slice a ss.length cap, u18, u19, u20, u21, u22, u23, u24, u25, u26, u27, u28, u29, u30, u31, u32, u33, u34, u35, u36, u37, u38, u39, u40, u41, u42, u43, u44, u45, u46, u47, u48, u49, u50, u51, u52, u53, u54, u55, u56, u57, u58, u59, u60, u61, u62, u63, u64, u65, u66, u67, u68, u69, u70, u71, u72, u73, u74, u75, u76, u77, u78, u79, u80, u81, u82, u83, u84, u85, u86, u87, u88, u89, u90, u91, u92, u93, u94, u95, u96, u97, u98, u99, u100, u101, u102, u103, u104, u105, u106, u107, u108, u109, u110, u111, u112, u113, u114, u115, u116, u117, u118, u119, u120, u121, u122, u123, u124, u125, u126, u127, u128, u129, u130, u131, u132, u133, u134, u135, u136, u137, u138, u139, u140, u141, u142, u143, u144, u145, u146, u147, u148, u149, u150, u151, u152, u153, u154, u155, u156, u157, u158, u159, u160, u161, u162, u163, u164, u165, u166, u167, u168, u169, u170, u171, u172, u173, u174, u175, u176, u177, u178, u179, u180, u181, u182, u183, u184, u185, u186, u187, u188, u189, u190, u191, u192, u193, u194, u195, u196, u197, u198, u199, u200, u201, u202, u203, u204, u205, u206, u207, u208, u209, u210, u211, u212, u213, u214, u215, u216, u217, u218, u219, u220, u221, u222, u223, u224, u225, u226, u227, u228, u229, u230, u231, u232, u233, u234, u235, u236, u237, u238, u239, u240, u241, u242, u243, u244, u245, u246, u247, u248, u249, u250, u251, u252, u253, u254, u255, u256, u257, u258, u259, u260, u261, u262, u263, u264, u265, u266, u267, u268, u269, u270, u271, u272, u273, u274, u275, u276, u277, u278, u279, u280, u281, u282, u283, u284, u285, u286, u287, u288, u289, u290, u291, u292, u293, u294, u295, u296, u297, u298, u299, u300, u301, u302, u303, u304, u305, u306, u307, u308, u309, u310, u311, u312, u313, u314, u315, u316, u317, u318, u319, u320, u321, u322, u323, u324, u325, u326, u327, u328, u329, u330, u331, u332, u333, u334, u335, u336, u337, u338, u339, u340], defers := [] } w := by
  have HBW : Hid (Below B W w) := hBW
  have HA : Hid (Strs w a ss) := hA
  clear hBW hA
  conv in fromRegion _ _ => whnf
  go_upto_region 41 with (fail)
  generalize hW : w.alloc _ = W1
  have c49 : W1.heap[w.heap.size]? = some (.cells #[.int .u8 0, .slice (some ⟨gS, 0, none⟩) n0 n0, .int .i64 0, .string ⟨#[]⟩, .pointer none, .string ⟨#[]⟩] 49 (0, 0)) := by rw [← hW]; exact (MapKept.heap_alloc _ _).1
  have d0 : W1.cell? ⟨w.heap.size, 0, none⟩ = some (.int .u8 0) := by rw [cell_of_row W1 _ 0 _ 49 (0, 0) c49]; rfl
  have d1 : W1.cell? ⟨w.heap.size, 1, none⟩ = some (.slice (some ⟨gS, 0, none⟩) n0 n0) := by rw [cell_of_row W1 _ 1 _ 49 (0, 0) c49]; rfl
  have d2 : W1.cell? ⟨w.heap.size, 2, none⟩ = some (.int .i64 0) := by rw [cell_of_row W1 _ 2 _ 49 (0, 0) c49]; rfl
  have d3 : W1.cell? ⟨w.heap.size, 3, none⟩ = some (.string ⟨#[]⟩) := by rw [cell_of_row W1 _ 3 _ 49 (0, 0) c49]; rfl
  have d4 : W1.cell? ⟨w.heap.size, 4, none⟩ = some (.pointer none) := by rw [cell_of_row W1 _ 4 _ 49 (0, 0) c49]; rfl
  have d5 : W1.cell? ⟨w.heap.size, 5, none⟩ = some (.string ⟨#[]⟩) := by rw [cell_of_row W1 _ 5 _ 49 (0, 0) c49]; rfl
  have HB1 : Hid (Below w.heap.size w W1) := by rw [← hW]; exact (Below.refl _ _).alloc (Nat.le_refl _) _
  clear hW c49
  have hcl := C20_len ty a ss.length cap z10_len
  have hz := Z20_len
  go_wp2_with (fail)
  refine Calls.mono (pick_none cap capT ty a aT ss.length _ _ _ _ W1) ?_
  rintro e w2 ⟨rfl, hB2⟩
  have HB2 : Hid (Below W1.heap.size W1 w2) := hB2
  clear hB2 d0 d1 d2 d3 d4 d5
  have hn2 : (w2.alloc (.cells Z20.toArray 59 (0, 0))).heap[w2.heap.size]? = some (.cells Z20.toArray 59 (0, 0)) := (MapKept.heap_alloc _ _).1
  have hst : (storeCells ⟨w2.heap.size, 0, none⟩ (C20 ty a ss.length cap z10)).run Yba.prog (w2.alloc (.cells Z20.toArray 59 (0, 0))) = .ok () ((w2.alloc (.cells Z20.toArray 59 (0, 0))).setCells w2.heap.size 0 (C20 ty a ss.length cap z10)) :=
    sc_block hn2 (by rw [hcl]; simp [hz]) (C20_one ty a ss.length cap z10_one')
  go_upto_region 42 with (fail)
  have h59 := heap_whole (X := C20 ty a ss.length cap z10) hn2 (by rw [hcl]; simp [hz])
  have HB3 : Hid (Below W1.heap.size W1 ((w2.alloc (.cells Z20.toArray 59 (0, 0))).setCells w2.heap.size 0 (C20 ty a ss.length cap z10))) := Below_setCells _ HB2.out.size _ _ _ (HB2.out.alloc HB2.out.size _)
  generalize (w2.alloc (.cells Z20.toArray 59 (0, 0))).setCells w2.heap.size 0 (C20 ty a ss.length cap z10) = W3 at h59 HB3 ⊢
  have lo : ∀ j, j < 10 → W3.cell? ⟨w2.heap.size, j, none⟩ = (A10 ty a ss.length cap)[j]? := fun j hj => by
    rw [cell_of_row W3 _ j _ 59 (0, 0) h59, List.getElem?_toArray, C20_lo _ _ _ _ _ _ hj]
  have hi : ∀ j, W3.cell? ⟨w2.heap.size, 10 + j, none⟩ = z10[j]? := fun j => by
    rw [cell_of_row W3 _ _ _ 59 (0, 0) h59, List.getElem?_toArray, C20_hi]
  have e0 : W3.cell? ⟨w2.heap.size, 0, none⟩ = some (.int .u16 ty) := (lo 0 (by omega)).trans rfl
  have e1 : W3.cell? ⟨w2.heap.size, 1, none⟩ = some (.slice a ss.length cap) := (lo 1 (by omega)).trans rfl
  have e2 : W3.cell? ⟨w2.heap.size, 2, none⟩ = some (.bool false) := (lo 2 (by omega)).trans rfl
  have e3 : W3.cell? ⟨w2.heap.size, 3, none⟩ = some (.int .i64 0) := (lo 3 (by omega)).trans rfl
  have e4 : W3.cell? ⟨w2.heap.size, 4, none⟩ = some (.int .i64 0) := (lo 4 (by omega)).trans rfl
  have e5 : W3.cell? ⟨w2.heap.size, 5, none⟩ = some (.bool false) := (lo 5 (by omega)).trans rfl
  have e6 : W3.cell? ⟨w2.heap.size, 6, none⟩ = some (.int .i64 0) := (lo 6 (by omega)).trans rfl
  have e7 : W3.cell? ⟨w2.heap.size, 7, none⟩ = some (.int .u64 0) := (lo 7 (by omega)).trans rfl
  have e8 : W3.cell? ⟨w2.heap.size, 8, none⟩ = some (.int .i64 0) := (lo 8 (by omega)).trans rfl
  have e9 : W3.cell? ⟨w2.heap.size, 9, none⟩ = some (.pointer none) := (lo 9 (by omega)).trans rfl
  have e18 : W3.cell? ⟨w2.heap.size, 18, none⟩ = some (.int .i64 0) := (hi 8).trans rfl
  have e19 : W3.cell? ⟨w2.heap.size, 19, none⟩ = some (.map none) := (hi 9).trans rfl
  clear hst hn2 h59 lo hi
  have hB13 : Below w.heap.size w W3 := HB1.out.trans (Below.less HB3.out HB1.out.size)
  have HA3 : Hid (Strs W3 a ss) := HA.out.keep hB13
  have HBe : Hid (Below B W W3) := HBW.out.trans (Below.less hB13 hBs)
  have hsz13 : B ≤ W3.heap.size := Nat.le_trans hBs hB13.size
  clear hB13
  have hF := eqP W3
  have hmn := eql_none W3
  have hEq := equal_any a ss cap W3 HA3.out hl
  have HEq : Hid (Calls Yba.prog 7 #[.slice a ss.length cap, .slice a ss.length cap] W3 fun e w' => e = .returned (.bool true) ∧ Below W3.heap.size W3 w') := hEq
  clear hEq
  go_wp2_with (go_at_call 7; refine Calls.mono HEq.out ?_; rintro e w4 ⟨rfl, hB4⟩; have HB4 : Hid (Below W3.heap.size W3 w4) := hB4; have f18 := Below.cellAt hB4 e18; have f19 := Below.cellAt hB4 e19; have hmn4 := eql_none w4; clear hB4)
  go_ret
  exact ⟨rfl, HBe.out.trans (Below.less HB4.out hsz13)⟩
end Go.Proofs.Ybulkamrg
