/- LawS1917CPick, regions 64 to 78: how many keys the picked set has. -/
import Derived.Test.YbulkamrgLawA
namespace Go.Proofs.Ybulkamrg
open Go.RowKit Go.Maps Go.WideMaps
set_option linter.unusedSimpArgs false
set_option linter.unusedVariables false

/-- The matcher's number and map in the criteria's cells. -/
def NS (w : World) (b : Nat) (f : Nat → Option ByteArray) : Prop :=
  (cnt6 f 6 ≤ 4 ∧ w.cell? ⟨b, 18, none⟩ = some (.int .i64 (cnt6 f 6 : Nat)) ∧ w.cell? ⟨b, 19, none⟩ = some (.map none)) ∨ (4 < cnt6 f 6 ∧ w.cell? ⟨b, 18, none⟩ = some (.int .i64 0) ∧ ∃ m, w.cell? ⟨b, 19, none⟩ = some (.map (some m)))
theorem NS.keep {w w' : World} {b : Nat} {f : Nat → Option ByteArray} (h : NS w b f) (hB : Below w.heap.size w w') : NS w' b f := by
  rcases h with ⟨h1, h2, h3⟩ | ⟨h1, h2, m, h3⟩
  · exact .inl ⟨h1, Below.cellAt hB h2, Below.cellAt hB h3⟩
  · exact .inr ⟨h1, Below.cellAt hB h2, m, Below.cellAt hB h3⟩
theorem cnt6_le (f : Nat → Option ByteArray) : ∀ p, cnt6 f p ≤ p
  | 0 => Nat.le_refl _
  | p + 1 => by
    rw [cnt6]
    have := cnt6_le f p
    split <;> omega
theorem eql_some (m : Nat) (w : World) : (binOp .eql 46 (.map (some m)) (.map none)).run Yba.prog w = .ok (.bool false) w := by kernel_rfl

set_option maxRecDepth 20000 in
set_option maxHeartbeats 4000000 in
theorem seg64 (a0 a1 a2 a aT : Option Addr) (cap0 cap1 cap2 cap capT gS n0 n1 n2 b p : Nat) (ty : Int) (nilS : Bool) (fs : List (Nat → Option ByteArray)) (ss : List ByteArray) (ds : List SD) (zb : List ZB) (z : ZB) (W w : World) (B : Nat) (hBW : Below B W w) (hBs : B ≤ w.heap.size)
    (hL : LW w a a1 aT gS ss fs ds zb) (hP : LP n0 n1 ss fs ds zb) (hz : zb[p]? = some z) (hC : Crit w b ty a ss cap (fOf z.bs)) (hN : NS w b (fOf z.bs))
    (u5 u6 u7 u8 u9 u10 u11 u12 u14 u16 u18 u19 u20 u24 u25 u26 u27 u28 u29 u30 u31 u32 u33 u34 u35 u36 u37 u38 u39 u40 u41 u42 u43 u44 u45 u46 u47 u48 u49 u50 u51 u52 u53 u54 u55 u56 u57 u58 u59 u60 u61 u62 u63 u64 u65 u66 u67 u68 u69 u70 u71 u72 u73 u74 u75 u76 u77 u78 u79 u80 u81 u82 u83 u84 u85 u86 u87 u88 u89 u90 u91 u92 u93 u94 u95 u96 u97 u98 u99 u100 u101 u102 u103 u104 u105 u106 u107 u108 u109 u110 u111 u112 u113 u114 u115 u116 u117 u118 u119 u120 u121 u122 u123 u124 u125 u126 u127 u128 u129 u130 u131 u132 u133 u134 u135 u136 u137 u138 u139 u140 u141 u142 u143 u144 u145 u146 u147 u148 u149 u150 u151 u152 u153 u154 u155 u156 u157 u158 u159 u160 u161 u162 u163 u164 u165 u166 u167 u168 u169 u170 u171 u172 u173 u174 u175 u176 u177 u178 u179 u180 u181 u182 u183 u184 u185 u186 u187 u188 u189 u190 u191 u192 u193 u194 u195 u196 u197 u198 u199 u200 u201 u202 u203 u204 u205 u206 u207 u208 u209 u210 u211 u212 u213 u214 u215 u216 u217 u218 u219 u220 u221 u222 u223 u224 u225 u226 u227 u228 u229 u230 u231 u232 u233 u234 u235 u236 u237 u238 u239 u240 u241 u242 u243 u244 u245 u246 u247 u248 u249 u250 u251 u252 u253 u254 u255 u256 u257 u258 u259 u260 u261 u262 u263 u264 u265 u266 u267 u268 u269 u270 u271 u272 u273 u274 u275 u276 u277 u278 u279 u280 u281 u282 u283 u284 u285 u286 u287 u288 u289 u290 u291 u292 u293 u294 u295 u296 u297 u298 u299 u300 u301 u302 u303 u304 u305 u306 u307 u308 u309 u310 u311 u312 u313 u314 u315 u316 u317 u318 u319 u320 u321 u322 u323 u324 u325 u326 u327 u328 u329 u330 u331 u332 u333 u334 u335 u336 u337 u338 u339 u340 : Value) :
    (fromR 64 (Yba.f3.body.getD .skip)).wp Yba.prog (bodyPost Yba.prog Yba.f3 fun e w' => e = .returned (.bool true) ∧ Below B W w') { tmps := #[.slice a0 n0 cap0, .slice a1 n1 cap1, .slice a2 n2 cap2, .int .u16 ty, .bool nilS, u5, u6, u7, u8, u9, u10, u11, u12, .slice (some ⟨gS, 0, none⟩) n0 n0, u14, .slice aT n1 capT, u16, .slice a ss.length cap, u18, u19, u20, .int .u16 ty, .pointer (some ⟨b, 0, none⟩), .int .i64 p, u24, u25, u26, u27, u28, u29, u30, u31, u32, u33, u34, u35, u36, u37, u38, u39, u40, u41, u42, u43, u44, u45, u46, u47, u48, u49, u50, u51, u52, u53, u54, u55, u56, u57, u58, u59, u60, u61, u62, u63, u64, u65, u66, u67, u68, u69, u70, u71, u72, u73, u74, u75, u76, u77, u78, u79, u80, u81, u82, u83, u84, u85, u86, u87, u88, u89, u90, u91, u92, u93, u94, u95, u96, u97, u98, u99, u100, u101, u102, u103, u104, u105, u106, u107, u108, u109, u110, u111, u112, u113, u114, u115, u116, u117, u118, u119, u120, u121, u122, u123, u124, u125, u126, u127, u128, u129, u130, u131, u132, u133, u134, u135, u136, u137, u138, u139, u140, u141, u142, u143, u144, u145, u146, u147, u148, u149, u150, u151, u152, u153, u154, u155, u156, u157, u158, u159, u160, u161, u162, u163, u164, u165, u166, u167, u168, u169, u170, u171, u172, u173, u174, u175, u176, u177, u178, u179, u180, u181, u182, u183, u184, u185, u186, u187, u188, u189, u190, u191, u192, u193, u194, u195, u196, u197, u198, u199, u200, u201, u202, u203, u204, u205, u206, u207, u208, u209, u210, u211, u212, u213, u214, u215, u216, u217, u218, u219, u220, u221, u222, u223, u224, u225, u226, u227, u228, u229, u230, u231, u232, u233, u234, u235, u236, u237, u238, u239, u240, u241, u242, u243, u244, u245, u246, u247, u248, u249, u250, u251, u252, u253, u254, u255, u256, u257, u258, u259, u260, u261, u262, u263, u264, u265, u266, u267, u268, u269, u270, u271, u272, u273, u274, u275, u276, u277, u278, u279, u280, u281, u282, u283, u284, u285, u286, u287, u288, u289, u290, u291, u292, u293, u294, u295, u296, u297, u298, u299, u300, u301, u302, u303, u304, u305, u306, u307, u308, u309, u310, u311, u312, u313, u314, u315, u316, u317, u318, u319, u320, u321, u322, u323, u324, u325, u326, u327, u328, u329, u330, u331, u332, u333, u334, u335, u336, u337, u338, u339, u340], defers := [] } w := by
  have HBW : Hid (Below B W w) := hBW
  have HL : Hid (LW w a a1 aT gS ss fs ds zb) := hL
  have HP : Hid (LP n0 n1 ss fs ds zb) := hP
  have Hz : Hid (zb[p]? = some z) := hz
  have HC : Hid (Crit w b ty a ss cap (fOf z.bs)) := hC
  have HN : Hid (NS w b (fOf z.bs)) := hN
  have hn0 := hP.n0
  have hn1 := hP.n1
  have hp1 : p < n1 := by rw [← hP.z]; exact (List.getElem?_eq_some_iff.1 hz).1
  obtain ⟨hby, xz, hxz, hcz⟩ := hL.Z p z hz
  subst hxz
  have Hby : Hid (Bytes w z.a z.bs) := hby
  have hzl := hP.b z (List.mem_of_getElem? hz)
  clear hBW hL hP hz hC hN hby
  generalize hq : z.bs.length = q at hcz hzl
  have Hq : Hid (z.bs.length = q) := hq
  clear hq
  conv in fromR _ _ => whnf
  go_upto_region 66 with (fail)
  generalize hW : w.alloc _ = W1
  have HB1 : Hid (Below w.heap.size w W1) := by rw [← hW]; exact (Below.refl _ _).alloc (Nat.le_refl _) _
  have HC1 : Hid (∃ C, W1.heap[w.heap.size]? = some (.cells C 68 (0, 0)) ∧ C.size = 6 ∧ ∀ k, k < 6 → C[k]? = some (.bool ((fOf (z.bs.take 0)) k).isSome)) := by
    refine ⟨_, by rw [← hW]; exact (MapKept.heap_alloc _ _).1, rfl, fun k hk => ?_⟩
    have h6 : k = 0 ∨ k = 1 ∨ k = 2 ∨ k = 3 ∨ k = 4 ∨ k = 5 := by omega
    rcases h6 with e | e | e | e | e | e <;> subst e <;> rfl
  have hcz1 := Below.cellAt HB1.out hcz
  clear hcz hW
  have hp0 : (p : Int) < (n1 : Int) := by omega
  go_wp2
  clear hcz1
  go_loopw [277, 28] (fun i d wr => ∃ j : Nat, i = .int .i64 j ∧ j ≤ q ∧ d = .int .i64 (cnt6 (fOf (z.bs.take j)) 6 : Nat) ∧ Hid (∃ C, wr.heap[w.heap.size]? = some (.cells C 68 (0, 0)) ∧ C.size = 6 ∧ ∀ k, k < 6 → C[k]? = some (.bool ((fOf (z.bs.take j)) k).isSome)) ∧ Hid (Below w.heap.size w wr)) (fun i _ _ => q - (intOf i).toNat)
  case atStart => exact ⟨0, rfl, by omega, rfl, HC1, HB1⟩
  case round =>
    obtain ⟨j, rfl, hj, rfl, HCr, HBr⟩ := hrel
    generalize hd : cnt6 (fOf (z.bs.take j)) 6 = d
    have hd6 : d ≤ 6 := by rw [← hd]; exact cnt6_le _ _
    have Hd : Hid (cnt6 (fOf (z.bs.take j)) 6 = d) := hd
    clear hd
    by_cases hlt : j < q
    · have j1 : (j : Int) < (q : Int) := by omega
      obtain ⟨v, hv⟩ : ∃ v, z.bs[j]? = some v := ⟨_, List.getElem?_eq_getElem (by rw [Hq.out]; exact hlt)⟩
      obtain ⟨hv256, x, hx, hc⟩ := (Hby.out.keep HBr.out) j v hv
      have htk : z.bs.take (j + 1) = z.bs.take j ++ [v] := by rw [List.take_add_one, hv]; rfl
      have Htk : Hid (z.bs.take (j + 1) = z.bs.take j ++ [v]) := htk
      clear hv htk
      obtain ⟨C, hC, hCs, hCk⟩ := HCr.out
      obtain ⟨k, hk6, hk, hkm⟩ : ∃ k : Nat, k < 6 ∧ k = v % 6 ∧ (v : Int).tmod 6 = (k : Int) := ⟨v % 6, by omega, rfl, by rw [Int.tmod_eq_emod_of_nonneg (by omega)]; omega⟩
      have Hk : Hid (k = v % 6) := hk
      clear hk
      have hck : wr.cell? ⟨w.heap.size, k, none⟩ = some (.bool ((fOf (z.bs.take j)) k).isSome) := by rw [cell_of_row wr _ _ _ 68 (0, 0) hC]; exact hCk k hk6
      have bf : wr.frozen? ⟨w.heap.size, k, none⟩ = false := by simp [World.frozen?, hC]
      have HCh : Hid (wr.heap[w.heap.size]? = some (.cells C 68 (0, 0))) := hC
      have HCk : Hid _ := hCk
      clear hC hCk
      cases hs : ((fOf (z.bs.take j)) k).isSome with
      | true =>
        rw [hs] at hck
        have Hs : Hid (((fOf (z.bs.take j)) k).isSome = true) := hs
        clear hs
        go_wp2
        go_roundw
        case rel =>
          refine ⟨j + 1, by simp, by omega, ?_, ⟨C, HCh.out, hCs, fun i hi => ?_⟩, HBr⟩
          · rw [Htk.out, fOf_snoc, cnt6_upd, ← Hk.out, Hs.out, Hd.out]; simp
          · rw [Htk.out, fOf_snoc, ← Hk.out, HCk.out i hi, updF]
            by_cases e : i = k
            · subst e; rw [Hs.out]; simp
            · rw [if_neg e]
        case measure => simp [intOf]; omega
      | false =>
        rw [hs] at hck
        have Hs : Hid (((fOf (z.bs.take j)) k).isSome = false) := hs
        clear hs
        go_wp2
        go_roundw
        case rel =>
          refine ⟨j + 1, by simp, by omega, ?_, ⟨_, heap_setCell_same wr w.heap.size k C 68 (.bool true) HCh.out, by simpa using hCs, fun i hi => ?_⟩, HBr.out.setCell (p := ⟨w.heap.size, k, none⟩) (Nat.le_refl _) _⟩
          · rw [Htk.out, fOf_snoc, cnt6_upd, ← Hk.out, Hs.out, Hd.out]; simp [hk6]
          · rw [Htk.out, fOf_snoc, ← Hk.out, updF, Array.getElem?_setIfInBounds]
            by_cases e : i = k
            · subst e; rw [if_pos rfl, if_pos (by omega), if_pos rfl]; rfl
            · rw [if_neg (fun h => e h.symm), if_neg e, HCk.out i hi]
        case measure => simp [intOf]; omega
    · have hje : q = j := by omega
      subst hje
      have hde : cnt6 (fOf z.bs) 6 = d := by rw [← Hd.out, List.take_of_length_le (by rw [Hq.out]; exact Nat.le_refl _)]
      have HNr : Hid (NS wr b (fOf z.bs)) := HN.out.keep HBr.out
      go_upto_if 294 with (fail)
      go_cut [10] from 293 (fun _ wc => wc = wr)
      case first =>
        rcases HNr.out with ⟨h4, c18, c19⟩ | ⟨h4, c18, m, c19⟩
        · rw [hde] at h4 c18
          have h4' : (d : Int) ≤ 4 := by omega
          have hnn := neq_none wr
          go_wp2
          go_meet
          rfl
        · rw [hde] at h4
          have h4' : ¬ (d : Int) ≤ 4 := by omega
          have hnn := eql_some m wr
          go_wp2
          go_meet
          rfl
      case rest =>
        subst hcut
        rename_i hK
        refine hK _ _ ?_
        clear hK
        have hBw : Below B W wc := HBW.out.trans (Below.less HBr.out hBs)
        exact seg79 a0 (some xz) a2 a aT cap0 cap1 cap2 cap capT gS n0 n1 n2 b p ty nilS fs ss ds zb z W wc B hBw (Nat.le_trans hBs HBr.out.size) (HL.out.keep HBr.out) HP.out Hz.out (HC.out.keep HBr.out) _ _ _ _ _ _ _ _ _ _ _ _ _ _ _ _ _ _ _ _ _ _ _ _ _ _ _ _ _ _ _ _ _ _ _ _ _ _ _ _ _ _ _ _ _ _ _ _ _ _ _ _ _ _ _ _ _ _ _ _ _ _ _ _ _ _ _ _ _ _ _ _ _ _ _ _ _ _ _ _ _ _ _ _ _ _ _ _ _ _ _ _ _ _ _ _ _ _ _ _ _ _ _ _ _ _ _ _ _ _ _ _ _ _ _ _ _ _ _ _ _ _ _ _ _ _ _ _ _ _ _ _ _ _ _ _ _ _ _ _ _ _ _ _ _ _ _ _ _ _ _ _ _ _ _ _ _ _ _ _ _ _ _ _ _ _ _ _ _ _ _ _ _ _ _ _ _ _ _ _ _ _ _ _ _ _ _ _ _ _ _ _ _ _ _ _ _ _ _ _ _ _ _ _ _ _ _ _ _ _ _ _ _ _ _ _ _ _ _ _ _ _ _ _ _ _ _ _ _ _ _ _ _ _ _ _ _ _ _ _ _ _ _ _ _ _ _ _ _ _ _ _ _ _ _ _ _ _ _ _ _ _ _ _ _ _ _ _ _ _ _ _ _ _ _ _ _ _ _ _ _ _ _ _ _ _ _ _ _ _ _ _ _ _ _ _ _ _ _ _ _ _ _ _ _ _ _ _ _ _ _ _ _ _ _ _ _ _ _ _ _ _ _ _ _ _ _ _ _ _
end Go.Proofs.Ybulkamrg
