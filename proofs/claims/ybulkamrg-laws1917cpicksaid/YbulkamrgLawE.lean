/- LawS1917CPick from region 39 on, where there are sets. -/
import Derived.Test.YbulkamrgLawD
namespace Go.Proofs.Ybulkamrg
open Go.RowKit Go.Maps Go.WideMaps
set_option linter.unusedSimpArgs false
set_option linter.unusedVariables false
attribute [-simp] Yba.zeroValue59 Yba.typeInfo59
attribute [local simp] zero59

/-- What pick returned, as a block's cells. -/
theorem pr_of {w2 W3 : World} {b cap : Nat} {r : List Value} {fs : List (Nat → Option ByteArray)} {ty : Int} {a : Option Addr} {ss : List ByteArray} {ds : List SD} (h : PickRes w2 r fs ty a ss cap ds) (hb : W3.heap[b]? = some (.cells r.toArray 59 (0, 0))) (hs : Strs W3 a ss) (hl : ss.length < 100000)
    (hm : ∀ (k : Nat) (es : Array MapEntry) (clock : Nat), w2.heap[k]? = some (Obj.map es clock) → W3.heap[k]? = some (Obj.map es clock)) : PR W3 b fs ty a ss cap ds := by
  rcases h with ⟨j, f, X, h1, h2, h3, rfl, h5⟩ | ⟨h1, rfl⟩
  · have hT := h5.move hm
    refine .inl ⟨j, f, h1, h2, h3, crit_of hb hs hl hT, ?_⟩
    have hi : ∀ j, W3.cell? ⟨b, 10 + j, none⟩ = X[j]? := fun j => by
      rw [cell_of_row W3 b _ _ 59 (0, 0) hb, List.getElem?_toArray, C20_hi]
    obtain ⟨_, _, ⟨c1, ps, q1, q2, q3, q4, _⟩ | ⟨c1, q1, m, N, D, q2, _⟩⟩ := hT
    · exact .inl ⟨c1, (hi 8).trans (by rw [← q2]; simpa using q4), (hi 9).trans (by simpa using q3)⟩
    · exact .inr ⟨c1, (hi 8).trans (by simpa using q1), m, (hi 9).trans (by simpa using q2)⟩
  · have hc : ∀ j, W3.cell? ⟨b, j, none⟩ = Z20[j]? := fun j => by rw [cell_of_row W3 b _ _ 59 (0, 0) hb, List.getElem?_toArray]
    exact .inr ⟨h1, hc 0, hc 1, hc 18, hc 19⟩
/-- The cells of the freshness. -/
def FrC (W : World) (b : Nat) : Prop := W.cell? ⟨b, 2, none⟩ = some (.bool false) ∧ W.cell? ⟨b, 3, none⟩ = some (.int .i64 0) ∧ W.cell? ⟨b, 4, none⟩ = some (.int .i64 0) ∧ W.cell? ⟨b, 5, none⟩ = some (.bool false) ∧ W.cell? ⟨b, 6, none⟩ = some (.int .i64 0) ∧
    W.cell? ⟨b, 7, none⟩ = some (.int .u64 0) ∧ W.cell? ⟨b, 8, none⟩ = some (.int .i64 0) ∧ W.cell? ⟨b, 9, none⟩ = some (.pointer none)
theorem fr_of {w2 W3 : World} {b cap : Nat} {r : List Value} {fs : List (Nat → Option ByteArray)} {ty : Int} {a : Option Addr} {ss : List ByteArray} {ds : List SD} (h : PickRes w2 r fs ty a ss cap ds) (hb : W3.heap[b]? = some (.cells r.toArray 59 (0, 0))) : FrC W3 b := by
  rcases h with ⟨j, f, X, h1, h2, h3, rfl, h5⟩ | ⟨h1, rfl⟩
  · have lo : ∀ j, j < 10 → W3.cell? ⟨b, j, none⟩ = (A10 ty a ss.length cap)[j]? := fun j hj => by
      rw [cell_of_row W3 b j _ 59 (0, 0) hb, List.getElem?_toArray, C20_lo _ _ _ _ _ _ hj]
    exact ⟨lo 2 (by omega), lo 3 (by omega), lo 4 (by omega), lo 5 (by omega), lo 6 (by omega), lo 7 (by omega), lo 8 (by omega), lo 9 (by omega)⟩
  · have hc : ∀ j, W3.cell? ⟨b, j, none⟩ = Z20[j]? := fun j => by rw [cell_of_row W3 b _ _ 59 (0, 0) hb, List.getElem?_toArray]
    exact ⟨hc 2, hc 3, hc 4, hc 5, hc 6, hc 7, hc 8, hc 9⟩
theorem pick_one {w2 : World} {cap : Nat} {r : List Value} {fs : List (Nat → Option ByteArray)} {ty : Int} {a : Option Addr} {ss : List ByteArray} {ds : List SD} (h : PickRes w2 r fs ty a ss cap ds) : ∀ v ∈ r, v.oneCell' = true := by
  rcases h with ⟨j, f, X, h1, h2, h3, rfl, h5⟩ | ⟨h1, rfl⟩
  · exact C20_one ty a ss.length cap (fun v hv => h5.2.1 v (by simpa using hv))
  · exact Z20_one

set_option maxRecDepth 20000 in
set_option maxHeartbeats 4000000 in
theorem seg39_sets (a0 a1 a2 a aT : Option Addr) (cap0 cap1 cap2 cap capT gS n0 n1 n2 : Nat) (ty : Int) (nilS : Bool) (fs : List (Nat → Option ByteArray)) (ss : List ByteArray) (ds : List SD) (zb : List ZB) (W w : World) (B : Nat) (hBW : Below B W w) (hBs : B ≤ w.heap.size)
    (hL : LW w a a1 aT gS ss fs ds zb) (hP : LP n0 n1 ss fs ds zb) (hpos : 0 < n1)
    (u5 u6 u7 u8 u9 u10 u11 u12 u14 u16 u18 u19 u20 u21 u22 u23 u24 u25 u26 u27 u28 u29 u30 u31 u32 u33 u34 u35 u36 u37 u38 u39 u40 u41 u42 u43 u44 u45 u46 u47 u48 u49 u50 u51 u52 u53 u54 u55 u56 u57 u58 u59 u60 u61 u62 u63 u64 u65 u66 u67 u68 u69 u70 u71 u72 u73 u74 u75 u76 u77 u78 u79 u80 u81 u82 u83 u84 u85 u86 u87 u88 u89 u90 u91 u92 u93 u94 u95 u96 u97 u98 u99 u100 u101 u102 u103 u104 u105 u106 u107 u108 u109 u110 u111 u112 u113 u114 u115 u116 u117 u118 u119 u120 u121 u122 u123 u124 u125 u126 u127 u128 u129 u130 u131 u132 u133 u134 u135 u136 u137 u138 u139 u140 u141 u142 u143 u144 u145 u146 u147 u148 u149 u150 u151 u152 u153 u154 u155 u156 u157 u158 u159 u160 u161 u162 u163 u164 u165 u166 u167 u168 u169 u170 u171 u172 u173 u174 u175 u176 u177 u178 u179 u180 u181 u182 u183 u184 u185 u186 u187 u188 u189 u190 u191 u192 u193 u194 u195 u196 u197 u198 u199 u200 u201 u202 u203 u204 u205 u206 u207 u208 u209 u210 u211 u212 u213 u214 u215 u216 u217 u218 u219 u220 u221 u222 u223 u224 u225 u226 u227 u228 u229 u230 u231 u232 u233 u234 u235 u236 u237 u238 u239 u240 u241 u242 u243 u244 u245 u246 u247 u248 u249 u250 u251 u252 u253 u254 u255 u256 u257 u258 u259 u260 u261 u262 u263 u264 u265 u266 u267 u268 u269 u270 u271 u272 u273 u274 u275 u276 u277 u278 u279 u280 u281 u282 u283 u284 u285 u286 u287 u288 u289 u290 u291 u292 u293 u294 u295 u296 u297 u298 u299 u300 u301 u302 u303 u304 u305 u306 u307 u308 u309 u310 u311 u312 u313 u314 u315 u316 u317 u318 u319 u320 u321 u322 u323 u324 u325 u326 u327 u328 u329 u330 u331 u332 u333 u334 u335 u336 u337 u338 u339 u340 : Value) :
    (fromR 39 (Yba.f3.body.getD .skip)).wp Yba.prog (bodyPost Yba.prog Yba.f3 fun e w' => e = .returned (.bool true) ∧ Below B W w') { tmps := #[.slice a0 n0 cap0, .slice a1 n1 cap1, .slice a2 n2 cap2, .int .u16 ty, .bool nilS, u5, u6, u7, u8, u9, u10, u11, u12, .slice (some ⟨gS, 0, none⟩) n0 n0, u14, .slice aT n1 capT, u16, .slice a ss.length cap, u18, u19, u20, u21, u22, u23, u24, u25, u26, u27, u28, u29, u30, u31, u32, u33, u34, u35, u36, u37, u38, u39, u40, u41, u42, u43, u44, u45, u46, u47, u48, u49, u50, u51, u52, u53, u54, u55, u56, u57, u58, u59, u60, u61, u62, u63, u64, u65, u66, u67, u68, u69, u70, u71, u72, u73, u74, u75, u76, u77, u78, u79, u80, u81, u82, u83, u84, u85, u86, u87, u88, u89, u90, u91, u92, u93, u94, u95, u96, u97, u98, u99, u100, u101, u102, u103, u104, u105, u106, u107, u108, u109, u110, u111, u112, u113, u114, u115, u116, u117, u118, u119, u120, u121, u122, u123, u124, u125, u126, u127, u128, u129, u130, u131, u132, u133, u134, u135, u136, u137, u138, u139, u140, u141, u142, u143, u144, u145, u146, u147, u148, u149, u150, u151, u152, u153, u154, u155, u156, u157, u158, u159, u160, u161, u162, u163, u164, u165, u166, u167, u168, u169, u170, u171, u172, u173, u174, u175, u176, u177, u178, u179, u180, u181, u182, u183, u184, u185, u186, u187, u188, u189, u190, u191, u192, u193, u194, u195, u196, u197, u198, u199, u200, u201, u202, u203, u204, u205, u206, u207, u208, u209, u210, u211, u212, u213, u214, u215, u216, u217, u218, u219, u220, u221, u222, u223, u224, u225, u226, u227, u228, u229, u230, u231, u232, u233, u234, u235, u236, u237, u238, u239, u240, u241, u242, u243, u244, u245, u246, u247, u248, u249, u250, u251, u252, u253, u254, u255, u256, u257, u258, u259, u260, u261, u262, u263, u264, u265, u266, u267, u268, u269, u270, u271, u272, u273, u274, u275, u276, u277, u278, u279, u280, u281, u282, u283, u284, u285, u286, u287, u288, u289, u290, u291, u292, u293, u294, u295, u296, u297, u298, u299, u300, u301, u302, u303, u304, u305, u306, u307, u308, u309, u310, u311, u312, u313, u314, u315, u316, u317, u318, u319, u320, u321, u322, u323, u324, u325, u326, u327, u328, u329, u330, u331, u332, u333, u334, u335, u336, u337, u338, u339, u340], defers := [] } w := by
  have HBW : Hid (Below B W w) := hBW
  have HL : Hid (LW w a a1 aT gS ss fs ds zb) := hL
  have HP : Hid (LP n0 n1 ss fs ds zb) := hP
  have hn0 := hP.n0
  have hn1 := hP.n1
  have hfl : fs.length = n1 := by rw [hP.fs, List.length_map, hP.z]
  have Hfl : Hid (fs.length = n1) := hfl
  have hn1' : ((n1 : Int) == 0) = false := by simp; omega
  clear hBW hL hP hfl
  conv in fromR _ _ => whnf
  go_upto_region 41 with (fail)
  generalize hW : w.alloc _ = W1
  have c49 : W1.heap[w.heap.size]? = some (.cells #[.int .u8 0, .slice (some ⟨gS, 0, none⟩) n0 n0, .int .i64 0, .string ⟨#[]⟩, .pointer none, .string ⟨#[]⟩] 49 (0, 0)) := by rw [← hW]; exact (MapKept.heap_alloc _ _).1
  have d0 : W1.cell? ⟨w.heap.size, 0, none⟩ = some (.int .u8 0) := by rw [cell_of_row W1 _ 0 _ 49 (0, 0) c49]; rfl
  have d1 : W1.cell? ⟨w.heap.size, 1, none⟩ = some (.slice (some ⟨gS, 0, none⟩) n0 n0) := by rw [cell_of_row W1 _ 1 _ 49 (0, 0) c49]; rfl
  have d2 : W1.cell? ⟨w.heap.size, 2, none⟩ = some (.int .i64 0) := by rw [cell_of_row W1 _ 2 _ 49 (0, 0) c49]; rfl
  have d3 : W1.cell? ⟨w.heap.size, 3, none⟩ = some (.string ⟨#[]⟩) := by rw [cell_of_row W1 _ 3 _ 49 (0, 0) c49]; rfl
  have d4 : W1.cell? ⟨w.heap.size, 4, none⟩ = some (.pointer none) := by rw [cell_of_row W1 _ 4 _ 49 (0, 0) c49]; rfl
  have d5 : W1.cell? ⟨w.heap.size, 5, none⟩ = some (.string ⟨#[]⟩) := by rw [cell_of_row W1 _ 5 _ 49 (0, 0) c49]; rfl
  have HB1 : Hid (Below w.heap.size w W1) := by rw [← hW]; exact (Below.refl _ _).alloc (Nat.le_refl _) _
  clear hW c49
  have hz := Z20_len
  go_wp2_with (fail)
  have hL1 := HL.out.keep HB1.out
  have hpk := pick_sets cap capT n0 ty a aT (some ⟨gS, 0, none⟩) ss fs ds (.int .u8 0) (.int .i64 0) (.string ⟨#[]⟩) (.pointer none) (.string ⟨#[]⟩) (.int .u8 0) (.pointer none) (.pointer none) W1 hL1.A HP.out.l hL1.S (by rw [Hfl.out]; omega) (by rw [Hfl.out]; omega) hL1.D (by rw [HP.out.d]; omega)
  rw [Hfl.out, HP.out.d] at hpk
  refine Calls.mono hpk ?_
  clear hpk
  rintro e w2 ⟨r, rfl, hr, hPR, hB2⟩
  have HB2 : Hid (Below W1.heap.size W1 w2) := hB2
  have HPR : Hid (PickRes w2 r fs ty a ss cap ds) := hPR
  clear hB2 hPR hL1 d0 d1 d2 d3 d4 d5
  have hn2 : (w2.alloc (.cells Z20.toArray 59 (0, 0))).heap[w2.heap.size]? = some (.cells Z20.toArray 59 (0, 0)) := (MapKept.heap_alloc _ _).1
  have hst : (storeCells ⟨w2.heap.size, 0, none⟩ r).run Yba.prog (w2.alloc (.cells Z20.toArray 59 (0, 0))) = .ok () ((w2.alloc (.cells Z20.toArray 59 (0, 0))).setCells w2.heap.size 0 r) :=
    sc_block hn2 (by rw [hr]; simp [hz]) (pick_one HPR.out)
  go_upto_region 42 with (fail)
  have h59 := heap_whole (X := r) hn2 (by rw [hr]; simp [hz])
  have HB3 : Hid (Below w2.heap.size w2 ((w2.alloc (.cells Z20.toArray 59 (0, 0))).setCells w2.heap.size 0 r)) := Below_setCells _ (Nat.le_refl _) _ _ _ ((Below.refl _ _).alloc (Nat.le_refl _) _)
  generalize (w2.alloc (.cells Z20.toArray 59 (0, 0))).setCells w2.heap.size 0 r = W3 at h59 HB3 ⊢
  have HB13 : Hid (Below w.heap.size w W3) := HB1.out.trans ((Below.less HB2.out HB1.out.size).trans (Below.less HB3.out (Nat.le_trans HB1.out.size HB2.out.size)))
  have HL3 : Hid (LW W3 a a1 aT gS ss fs ds zb) := HL.out.keep HB13.out
  have HR3 : Hid (PR W3 w2.heap.size fs ty a ss cap ds) := pr_of HPR.out h59 HL3.out.A HP.out.l (fun k es clock hk => (HB3.out.block k (lt_of_heap hk)).trans hk)
  obtain ⟨e2, e3, e4, e5, e6, e7, e8, e9⟩ := fr_of HPR.out h59
  clear hst hn2 h59
  have hF := eqP W3
  go_upto_if 169 with (fail)
  go_cut [10] from 166 (fun _ wc => wc = W3)
  case first =>
    go_wp2
    go_meet
    rfl
  case rest =>
    subst hcut
    clear e2 e3 e4 e5 e6 e7 e8 e9 hF
    go_upto_if 172 with (fail)
    rename World => wd
    go_cut [10] from 166 (fun _ wc => wc = wd)
    case first =>
      go_wp2
      go_meet
      rfl
    case rest =>
      subst hcut
      rename_i hK
      refine hK _ _ ?_
      clear hK
      exact seg46 a0 a1 a2 a aT cap0 cap1 cap2 cap capT gS n0 n1 n2 w2.heap.size ty nilS fs ss ds zb W wc B (HBW.out.trans (Below.less HB13.out hBs)) (Nat.le_trans hBs HB13.out.size) HL3.out HP.out HR3.out _ _ _ _ _ _ _ _ _ _ _ _ _ _ _ _ _ _ _ _ _ _ _ _ _ _ _ _ _ _ _ _ _ _ _ _ _ _ _ _ _ _ _ _ _ _ _ _ _ _ _ _ _ _ _ _ _ _ _ _ _ _ _ _ _ _ _ _ _ _ _ _ _ _ _ _ _ _ _ _ _ _ _ _ _ _ _ _ _ _ _ _ _ _ _ _ _ _ _ _ _ _ _ _ _ _ _ _ _ _ _ _ _ _ _ _ _ _ _ _ _ _ _ _ _ _ _ _ _ _ _ _ _ _ _ _ _ _ _ _ _ _ _ _ _ _ _ _ _ _ _ _ _ _ _ _ _ _ _ _ _ _ _ _ _ _ _ _ _ _ _ _ _ _ _ _ _ _ _ _ _ _ _ _ _ _ _ _ _ _ _ _ _ _ _ _ _ _ _ _ _ _ _ _ _ _ _ _ _ _ _ _ _ _ _ _ _ _ _ _ _ _ _ _ _ _ _ _ _ _ _ _ _ _ _ _ _ _ _ _ _ _ _ _ _ _ _ _ _ _ _ _ _ _ _ _ _ _ _ _ _ _ _ _ _ _ _ _ _ _ _ _ _ _ _ _ _ _ _ _ _ _ _ _ _ _ _ _ _ _ _ _ _ _ _ _ _ _ _ _ _ _ _ _ _ _ _ _ _ _ _ _ _ _ _ _ _ _ _ _ _ _ _ _ _ _ _ _ _ _ _
end Go.Proofs.Ybulkamrg
