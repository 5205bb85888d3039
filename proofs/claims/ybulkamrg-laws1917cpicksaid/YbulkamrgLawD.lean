/- LawS1917CPick from region 46 on: which set is picked. -/
import Derived.Test.YbulkamrgLawC
import Derived.Deep.CutBlock
namespace Go.Proofs.Ybulkamrg
open Go.RowKit Go.Maps Go.WideMaps
set_option linter.unusedSimpArgs false
set_option linter.unusedVariables false

/-- What pick has left in the block b. -/
def PR (w : World) (b : Nat) (fs : List (Nat → Option ByteArray)) (ty : Int) (a : Option Addr) (ss : List ByteArray) (cap : Nat) (ds : List SD) : Prop :=
  (∃ j f, fs[j]? = some f ∧ anyM ty ss f ds = true ∧ (∀ g, g ∈ fs.take j → anyM ty ss g ds = false) ∧ Crit w b ty a ss cap f ∧ NS w b f) ∨
  ((∀ f, f ∈ fs → anyM ty ss f ds = false) ∧ w.cell? ⟨b, 0, none⟩ = some (.int .u16 0) ∧ w.cell? ⟨b, 1, none⟩ = some (.slice none 0 0) ∧ w.cell? ⟨b, 18, none⟩ = some (.int .i64 0) ∧ w.cell? ⟨b, 19, none⟩ = some (.map none))
theorem PR.keep {w w' : World} {b : Nat} {fs : List (Nat → Option ByteArray)} {ty : Int} {a : Option Addr} {ss : List ByteArray} {cap : Nat} {ds : List SD} (h : PR w b fs ty a ss cap ds) (hB : Below w.heap.size w w') : PR w' b fs ty a ss cap ds := by
  rcases h with ⟨j, f, h1, h2, h3, h4, h5⟩ | ⟨h1, h2, h3, h4, h5⟩
  · exact .inl ⟨j, f, h1, h2, h3, h4.keep hB, h5.keep hB⟩
  · exact .inr ⟨h1, Below.cellAt hB h2, Below.cellAt hB h3, Below.cellAt hB h4, Below.cellAt hB h5⟩
/-- The first set that some server meets is the one that pick took. -/
theorem PR.at {w : World} {b : Nat} {fs : List (Nat → Option ByteArray)} {ty : Int} {a : Option Addr} {ss : List ByteArray} {cap : Nat} {ds : List SD} (h : PR w b fs ty a ss cap ds) {p : Nat} {f : Nat → Option ByteArray} (hf : fs[p]? = some f) (ht : anyM ty ss f ds = true)
    (hb : ∀ g, g ∈ fs.take p → anyM ty ss g ds = false) : Crit w b ty a ss cap f ∧ NS w b f := by
  rcases h with ⟨j, f', h1, h2, h3, h4, h5⟩ | ⟨h1, _⟩
  · have hj : j = p := by
      rcases Nat.lt_trichotomy j p with h | h | h
      · have : f' ∈ fs.take p := List.mem_of_getElem? (i := j) (by rw [List.getElem?_take, if_pos h]; exact h1)
        rw [hb f' this] at h2; cases h2
      · exact h
      · have : f ∈ fs.take j := List.mem_of_getElem? (i := p) (by rw [List.getElem?_take, if_pos h]; exact hf)
        rw [h3 f this] at ht; cases ht
    subst hj
    rw [h1] at hf
    have : f' = f := by injection hf
    subst this
    exact ⟨h4, h5⟩
  · rw [h1 f (List.mem_of_getElem? hf)] at ht; cases ht

set_option maxRecDepth 20000 in
set_option maxHeartbeats 4000000 in
theorem seg46 (a0 a1 a2 a aT : Option Addr) (cap0 cap1 cap2 cap capT gS n0 n1 n2 b : Nat) (ty : Int) (nilS : Bool) (fs : List (Nat → Option ByteArray)) (ss : List ByteArray) (ds : List SD) (zb : List ZB) (W w : World) (B : Nat) (hBW : Below B W w) (hBs : B ≤ w.heap.size)
    (hL : LW w a a1 aT gS ss fs ds zb) (hP : LP n0 n1 ss fs ds zb) (hR : PR w b fs ty a ss cap ds)
    (u5 u6 u7 u8 u9 u10 u11 u12 u14 u16 u18 u19 u20 u23 u24 u25 u26 u27 u28 u29 u30 u31 u32 u33 u34 u35 u36 u37 u38 u39 u40 u41 u42 u43 u44 u45 u46 u47 u48 u49 u50 u51 u52 u53 u54 u55 u56 u57 u58 u59 u60 u61 u62 u63 u64 u65 u66 u67 u68 u69 u70 u71 u72 u73 u74 u75 u76 u77 u78 u79 u80 u81 u82 u83 u84 u85 u86 u87 u88 u89 u90 u91 u92 u93 u94 u95 u96 u97 u98 u99 u100 u101 u102 u103 u104 u105 u106 u107 u108 u109 u110 u111 u112 u113 u114 u115 u116 u117 u118 u119 u120 u121 u122 u123 u124 u125 u126 u127 u128 u129 u130 u131 u132 u133 u134 u135 u136 u137 u138 u139 u140 u141 u142 u143 u144 u145 u146 u147 u148 u149 u150 u151 u152 u153 u154 u155 u156 u157 u158 u159 u160 u161 u162 u163 u164 u165 u166 u167 u168 u169 u170 u171 u172 u173 u174 u175 u176 u177 u178 u179 u180 u181 u182 u183 u184 u185 u186 u187 u188 u189 u190 u191 u192 u193 u194 u195 u196 u197 u198 u199 u200 u201 u202 u203 u204 u205 u206 u207 u208 u209 u210 u211 u212 u213 u214 u215 u216 u217 u218 u219 u220 u221 u222 u223 u224 u225 u226 u227 u228 u229 u230 u231 u232 u233 u234 u235 u236 u237 u238 u239 u240 u241 u242 u243 u244 u245 u246 u247 u248 u249 u250 u251 u252 u253 u254 u255 u256 u257 u258 u259 u260 u261 u262 u263 u264 u265 u266 u267 u268 u269 u270 u271 u272 u273 u274 u275 u276 u277 u278 u279 u280 u281 u282 u283 u284 u285 u286 u287 u288 u289 u290 u291 u292 u293 u294 u295 u296 u297 u298 u299 u300 u301 u302 u303 u304 u305 u306 u307 u308 u309 u310 u311 u312 u313 u314 u315 u316 u317 u318 u319 u320 u321 u322 u323 u324 u325 u326 u327 u328 u329 u330 u331 u332 u333 u334 u335 u336 u337 u338 u339 u340 : Value) :
    (fromR 46 (Yba.f3.body.getD .skip)).wp Yba.prog (bodyPost Yba.prog Yba.f3 fun e w' => e = .returned (.bool true) ∧ Below B W w') { tmps := #[.slice a0 n0 cap0, .slice a1 n1 cap1, .slice a2 n2 cap2, .int .u16 ty, .bool nilS, u5, u6, u7, u8, u9, u10, u11, u12, .slice (some ⟨gS, 0, none⟩) n0 n0, u14, .slice aT n1 capT, u16, .slice a ss.length cap, u18, u19, u20, .int .u16 ty, .pointer (some ⟨b, 0, none⟩), u23, u24, u25, u26, u27, u28, u29, u30, u31, u32, u33, u34, u35, u36, u37, u38, u39, u40, u41, u42, u43, u44, u45, u46, u47, u48, u49, u50, u51, u52, u53, u54, u55, u56, u57, u58, u59, u60, u61, u62, u63, u64, u65, u66, u67, u68, u69, u70, u71, u72, u73, u74, u75, u76, u77, u78, u79, u80, u81, u82, u83, u84, u85, u86, u87, u88, u89, u90, u91, u92, u93, u94, u95, u96, u97, u98, u99, u100, u101, u102, u103, u104, u105, u106, u107, u108, u109, u110, u111, u112, u113, u114, u115, u116, u117, u118, u119, u120, u121, u122, u123, u124, u125, u126, u127, u128, u129, u130, u131, u132, u133, u134, u135, u136, u137, u138, u139, u140, u141, u142, u143, u144, u145, u146, u147, u148, u149, u150, u151, u152, u153, u154, u155, u156, u157, u158, u159, u160, u161, u162, u163, u164, u165, u166, u167, u168, u169, u170, u171, u172, u173, u174, u175, u176, u177, u178, u179, u180, u181, u182, u183, u184, u185, u186, u187, u188, u189, u190, u191, u192, u193, u194, u195, u196, u197, u198, u199, u200, u201, u202, u203, u204, u205, u206, u207, u208, u209, u210, u211, u212, u213, u214, u215, u216, u217, u218, u219, u220, u221, u222, u223, u224, u225, u226, u227, u228, u229, u230, u231, u232, u233, u234, u235, u236, u237, u238, u239, u240, u241, u242, u243, u244, u245, u246, u247, u248, u249, u250, u251, u252, u253, u254, u255, u256, u257, u258, u259, u260, u261, u262, u263, u264, u265, u266, u267, u268, u269, u270, u271, u272, u273, u274, u275, u276, u277, u278, u279, u280, u281, u282, u283, u284, u285, u286, u287, u288, u289, u290, u291, u292, u293, u294, u295, u296, u297, u298, u299, u300, u301, u302, u303, u304, u305, u306, u307, u308, u309, u310, u311, u312, u313, u314, u315, u316, u317, u318, u319, u320, u321, u322, u323, u324, u325, u326, u327, u328, u329, u330, u331, u332, u333, u334, u335, u336, u337, u338, u339, u340], defers := [] } w := by
  have HBW : Hid (Below B W w) := hBW
  have HL : Hid (LW w a a1 aT gS ss fs ds zb) := hL
  have HP : Hid (LP n0 n1 ss fs ds zb) := hP
  have HR : Hid (PR w b fs ty a ss cap ds) := hR
  have hn0 := hP.n0
  have hn1 := hP.n1
  clear hBW hL hP hR
  conv in fromR _ _ => whnf
  go_upto_block 10 with (fail)
  go_cut [23] from 24 (fun s wc => Hid (Below w.heap.size w wc) ∧ ((s = .int .i64 (-1) ∧ Hid (∀ f, f ∈ fs → anyM ty ss f ds = false)) ∨ ∃ (p : Nat) (z : ZB), s = .int .i64 p ∧ Hid (zb[p]? = some z) ∧ Hid (anyM ty ss (fOf z.bs) ds = true) ∧ Hid (∀ g, g ∈ fs.take p → anyM ty ss g ds = false)))
  case first =>
    go_wp2
    go_loopw [205, 23] (fun i s wr => ∃ j : Nat, i = .int .i64 j ∧ j ≤ n1 ∧ s = .int .i64 (-1) ∧ Hid (∀ g, g ∈ fs.take j → anyM ty ss g ds = false) ∧ Hid (Below w.heap.size w wr)) (fun i _ _ => n1 - (intOf i).toNat)
    case atStart => exact ⟨0, rfl, by omega, rfl, show ∀ g, g ∈ fs.take 0 → _ from fun g h => by simp at h, Below.refl _ _⟩
    case round =>
      obtain ⟨p, rfl, hp, rfl, HF, HBr⟩ := hrel
      by_cases hlt : p < n1
      · have p1 : (p : Int) < (n1 : Int) := by omega
        obtain ⟨z, hz⟩ : ∃ z, zb[p]? = some z := ⟨_, List.getElem?_eq_getElem (by rw [HP.out.z]; exact hlt)⟩
        have Hz : Hid (zb[p]? = some z) := hz
        obtain ⟨hby0, xz, hxz, hcz0⟩ := HL.out.Z p z hz
        obtain ⟨xt, hxt, m, N, D, hct0, hom0, hFD⟩ := HL.out.S p _ (HP.out.f hz)
        subst hxz hxt
        have hzl := HP.out.b z (List.mem_of_getElem? hz)
        have Hby : Hid (Bytes w z.a z.bs) := hby0
        have Hom : Hid (w.ownsMap Yba.prog 9 (plainElem Yba.prog 9) m N D) := hom0
        have HFD : Hid (FD D (fOf z.bs)) := hFD
        have Hcz0 : Hid _ := hcz0
        have Hct0 : Hid _ := hct0
        clear hz hby0 hom0 hFD hcz0 hct0
        go_wp2
        generalize hwa : wr = wa at HBr
        go_loopw [210, 25] (fun i s wr => ∃ j : Nat, i = .int .i64 j ∧ j ≤ n0 ∧ s = .bool false ∧ Hid (∀ d, d ∈ ds.take j → meets ty ss (fOf z.bs) d.ad d.t d.fT = false) ∧ Hid (Below w.heap.size w wr)) (fun i _ _ => n0 - (intOf i).toNat)
        case atStart => exact ⟨0, rfl, by omega, rfl, show ∀ d, d ∈ ds.take 0 → _ from fun d h => by simp at h, hwa ▸ HBr⟩
        case round =>
          obtain ⟨j, rfl, hj, rfl, HM, HBq⟩ := hrel
          by_cases hl2 : j < n0
          · have j1 : (j : Int) < (n0 : Int) := by omega
            obtain ⟨d, hd⟩ : ∃ d, ds[j]? = some d := ⟨_, List.getElem?_eq_getElem (by rw [HP.out.d]; exact hl2)⟩
            obtain ⟨g', hg', hsv0⟩ := HL.out.D j d hd
            have hgg : gS = g' := by injection hg' with e; injection e
            subst hgg
            have hcz := Below.cellAt HBq.out Hcz0.out
            have hct := Below.cellAt HBq.out Hct0.out
            have Hd : Hid (ds[j]? = some d) := hd
            have Hsv : Hid (Srv w gS (j * 23) d.ad d.t d.vT d.fT) := hsv0
            have Hcm : Hid (∀ w1, Below w.heap.size w w1 → Calls Yba.prog 8 #[.pointer (some ⟨gS, j * 23, none⟩), .int .u16 ty, .slice a ss.length cap, .slice z.a z.bs.length z.cap, .map (some m)] w1 fun e w' => e = .returned (.bool (meets ty ss (fOf z.bs) d.ad d.t d.fT)) ∧ w' = w1) := fun w1 hB =>
              cm_any gS (j * 23) cap z.cap d.t ty a z.a ss z.bs d.fT d.ad d.vT (.map (some m)) w1 (HL.out.A.keep hB) HP.out.l (Hby.out.keep hB) (by omega) (Hsv.out.keep hB) (.inr ⟨m, N, D, rfl, ownsMap_heap Hom.out (hB.block m Hom.out.lt), HFD.out⟩)
            clear hsv0 hd hg'
            go_wp2
            rename World => wq
            have HSn : wq.drew.cell? (xz.add p) = some (.slice z.a z.bs.length z.cap) ∧ wq.drew.cell? (xt.add p) = some (.map (some m)) := ⟨hcz, hct⟩
            have HBd : Hid (Below w.heap.size w wq.drew) := HBq.out.drew
            refine region_late (S := fun w' => w'.cell? (xz.add p) = some (.slice z.a z.bs.length z.cap) ∧ w'.cell? (xt.add p) = some (.map (some m))) (late := fun _ => false) (by kernel_rfl) ?_
            refine anyLate_takeW (i := 0) (v := .slice (some ⟨gS, 0, none⟩) n0 n0) rfl (by kernel_rfl) (by kernel_rfl) (by kernel_rfl) (fun _ _ _ h => h) (.inl ⟨by kernel_rfl, fun w _ => by go_simp⟩) ?_
            simp only [Act.put, List.setIfInBounds_toArray, List.set_cons_zero, List.set_cons_succ]
            refine anyLate_takeW (i := 1) (v := .int .i64 j) rfl (by kernel_rfl) (by kernel_rfl) (by kernel_rfl) (fun _ _ _ h => h) (.inl ⟨by kernel_rfl, fun w _ => by go_simp⟩) ?_
            simp only [Act.put, List.setIfInBounds_toArray, List.set_cons_zero, List.set_cons_succ]
            refine anyLate_takeW (i := 2) (v := .pointer (some ⟨gS, j * 23, none⟩)) rfl (by kernel_rfl) (by kernel_rfl) (by kernel_rfl) (fun _ _ _ h => h) (.inl ⟨by kernel_rfl, fun w _ => by go_simp⟩) ?_
            simp only [Act.put, List.setIfInBounds_toArray, List.set_cons_zero, List.set_cons_succ]
            refine anyLate_takeW (i := 3) (v := .int .u16 ty) rfl (by kernel_rfl) (by kernel_rfl) (by kernel_rfl) (fun _ _ _ h => h) (.inl ⟨by kernel_rfl, fun w _ => by go_simp⟩) ?_
            simp only [Act.put, List.setIfInBounds_toArray, List.set_cons_zero, List.set_cons_succ]
            refine anyLate_takeW (i := 4) (v := .slice a ss.length cap) rfl (by kernel_rfl) (by kernel_rfl) (by kernel_rfl) (fun _ _ _ h => h) (.inl ⟨by kernel_rfl, fun w _ => by go_simp⟩) ?_
            simp only [Act.put, List.setIfInBounds_toArray, List.set_cons_zero, List.set_cons_succ]
            refine anyLate_takeW (i := 5) (v := .slice (some xz) n1 cap1) rfl (by kernel_rfl) (by kernel_rfl) (by kernel_rfl) (fun _ _ _ h => h) (.inl ⟨by kernel_rfl, fun w _ => by go_simp⟩) ?_
            simp only [Act.put, List.setIfInBounds_toArray, List.set_cons_zero, List.set_cons_succ]
            refine anyLate_takeW (i := 6) (v := .int .i64 p) rfl (by kernel_rfl) (by kernel_rfl) (by kernel_rfl) (fun _ _ _ h => h) (.inl ⟨by kernel_rfl, fun w _ => by go_simp⟩) ?_
            simp only [Act.put, List.setIfInBounds_toArray, List.set_cons_zero, List.set_cons_succ]
            refine anyLate_takeW (i := 7) (v := .pointer (some (xz.add p))) rfl (by kernel_rfl) (by kernel_rfl) (by kernel_rfl) (fun _ _ _ h => h) (.inl ⟨by kernel_rfl, fun w _ => by go_simp⟩) ?_
            simp only [Act.put, List.setIfInBounds_toArray, List.set_cons_zero, List.set_cons_succ]
            refine anyLate_take (i := 8) (v := .slice z.a z.bs.length z.cap) rfl (by kernel_rfl) (by kernel_rfl) (by kernel_rfl) (fun _ _ _ h => h) rfl (by kernel_rfl) (.inl ⟨by kernel_rfl, fun w hSw => by (obtain ⟨s1, s2⟩ := hSw; go_simp)⟩) HSn ?_
            simp only [Act.put, List.setIfInBounds_toArray, List.set_cons_zero, List.set_cons_succ]
            refine anyLate_takeW (i := 9) (v := .slice (some xt) n1 capT) rfl (by kernel_rfl) (by kernel_rfl) (by kernel_rfl) (fun _ _ _ h => h) (.inl ⟨by kernel_rfl, fun w _ => by go_simp⟩) ?_
            simp only [Act.put, List.setIfInBounds_toArray, List.set_cons_zero, List.set_cons_succ]
            refine anyLate_takeW (i := 10) (v := .int .i64 p) rfl (by kernel_rfl) (by kernel_rfl) (by kernel_rfl) (fun _ _ _ h => h) (.inl ⟨by kernel_rfl, fun w _ => by go_simp⟩) ?_
            simp only [Act.put, List.setIfInBounds_toArray, List.set_cons_zero, List.set_cons_succ]
            refine anyLate_takeW (i := 11) (v := .pointer (some (xt.add p))) rfl (by kernel_rfl) (by kernel_rfl) (by kernel_rfl) (fun _ _ _ h => h) (.inl ⟨by kernel_rfl, fun w _ => by go_simp⟩) ?_
            simp only [Act.put, List.setIfInBounds_toArray, List.set_cons_zero, List.set_cons_succ]
            refine anyLate_take (i := 12) (v := .map (some m)) rfl (by kernel_rfl) (by kernel_rfl) (by kernel_rfl) (fun _ _ _ h => h) rfl (by kernel_rfl) (.inl ⟨by kernel_rfl, fun w hSw => by (obtain ⟨s1, s2⟩ := hSw; go_simp)⟩) HSn ?_
            simp only [Act.put, List.setIfInBounds_toArray, List.set_cons_zero, List.set_cons_succ]
            refine anyLate_ready (rs := [13]) (by kernel_rfl) (by simp) ?_
            refine AllLate.cons rfl (fun K' hK' => ?_) AllLate.nil
            go_simp
            refine Calls.mono (Hcm.out _ HBd.out) ?_
            rintro e w3 ⟨rfl, hw3⟩
            subst hw3
            refine hK'.out _ _ (fun _ h => h) ?_
            clear hK' HSn hcz hct
            try simp only [Act.put, List.setIfInBounds_toArray, List.set_cons_zero, List.set_cons_succ]
            refine anyLate_done (by kernel_rfl) ?_ _
            generalize wq.drew = w3 at HBd ⊢
            cases hm : meets ty ss (fOf z.bs) d.ad d.t d.fT with
            | true =>
              have Hm : Hid (meets ty ss (fOf z.bs) d.ad d.t d.fT = true) := hm
              clear hm
              go_wp2
              go_meet
              exact ⟨HBd, .inr ⟨p, z, rfl, Hz, List.any_eq_true.2 ⟨d, List.mem_of_getElem? Hd.out, Hm.out⟩, HF⟩⟩
            | false =>
              have Hm : Hid (meets ty ss (fOf z.bs) d.ad d.t d.fT = false) := hm
              clear hm
              go_wp2
              go_roundw
              case rel =>
                refine ⟨j + 1, by simp, by omega, rfl, show ∀ x, _ → _ from fun x hx => ?_, HBd⟩
                rw [List.take_add_one, Hd.out] at hx
                simp only [Option.toList, List.mem_append, List.mem_singleton] at hx
                rcases hx with hx | hx
                · exact HM.out x hx
                · subst hx; exact Hm.out
              case measure => simp [intOf]; omega
          · have hje : j = n0 := by omega
            subst hje
            have HA : Hid (anyM ty ss (fOf z.bs) ds = false) := by
              show anyM ty ss (fOf z.bs) ds = false
              rw [anyM, List.any_eq_false]
              intro x hx
              rw [HM.out x (by rw [List.take_of_length_le (by rw [HP.out.d]; exact Nat.le_refl _)]; exact hx)]
              simp
            go_wp2
            go_roundw
            case rel =>
              refine ⟨p + 1, by simp, by omega, rfl, show ∀ x, _ → _ from fun x hx => ?_, HBq⟩
              rw [List.take_add_one, HP.out.f Hz.out] at hx
              simp only [Option.toList, List.mem_append, List.mem_singleton] at hx
              rcases hx with hx | hx
              · exact HF.out x hx
              · subst hx; exact HA.out
            case measure => simp [intOf]; omega
      · have hpe : n1 = p := by omega
        subst hpe
        go_wp2
        go_meet
        refine ⟨HBr, .inl ⟨rfl, show ∀ f, _ → _ from fun f hf => HF.out f ?_⟩⟩
        rw [List.take_of_length_le (by rw [HP.out.fs, List.length_map, HP.out.z]; exact Nat.le_refl _)]; exact hf
  case rest =>
    obtain ⟨HBc, hcase⟩ := hcut
    rename_i hK
    refine hK _ _ ?_
    clear hK
    have hBw : Below B W wc := HBW.out.trans (Below.less HBc.out hBs)
    have hRc := HR.out.keep HBc.out
    rcases hcase with ⟨rfl, HN⟩ | ⟨p, z, rfl, Hz, Ht, Hb⟩
    · have hcells : wc.cell? ⟨b, 0, none⟩ = some (.int .u16 0) ∧ wc.cell? ⟨b, 1, none⟩ = some (.slice none 0 0) ∧ wc.cell? ⟨b, 18, none⟩ = some (.int .i64 0) ∧ wc.cell? ⟨b, 19, none⟩ = some (.map none) := by
        rcases hRc with ⟨j, f, h1, h2, _⟩ | ⟨_, h⟩
        · rw [HN.out f (List.mem_of_getElem? h1)] at h2; cases h2
        · exact h
      exact seg60_none a0 a1 a2 a aT cap0 cap1 cap2 cap capT gS n0 n1 n2 b ty nilS ss W wc B hBw hcells.1 hcells.2.1 hcells.2.2.1 hcells.2.2.2 _ _ _ _ _ _ _ _ _ _ _ _ _ _ _ _ _ _ _ _ _ _ _ _ _ _ _ _ _ _ _ _ _ _ _ _ _ _ _ _ _ _ _ _ _ _ _ _ _ _ _ _ _ _ _ _ _ _ _ _ _ _ _ _ _ _ _ _ _ _ _ _ _ _ _ _ _ _ _ _ _ _ _ _ _ _ _ _ _ _ _ _ _ _ _ _ _ _ _ _ _ _ _ _ _ _ _ _ _ _ _ _ _ _ _ _ _ _ _ _ _ _ _ _ _ _ _ _ _ _ _ _ _ _ _ _ _ _ _ _ _ _ _ _ _ _ _ _ _ _ _ _ _ _ _ _ _ _ _ _ _ _ _ _ _ _ _ _ _ _ _ _ _ _ _ _ _ _ _ _ _ _ _ _ _ _ _ _ _ _ _ _ _ _ _ _ _ _ _ _ _ _ _ _ _ _ _ _ _ _ _ _ _ _ _ _ _ _ _ _ _ _ _ _ _ _ _ _ _ _ _ _ _ _ _ _ _ _ _ _ _ _ _ _ _ _ _ _ _ _ _ _ _ _ _ _ _ _ _ _ _ _ _ _ _ _ _ _ _ _ _ _ _ _ _ _ _ _ _ _ _ _ _ _ _ _ _ _ _ _ _ _ _ _ _ _ _ _ _ _ _ _ _ _ _ _ _ _ _ _ _ _ _ _ _ _ _ _ _ _ _ _ _ _ _ _ _ _ _ _
    · obtain ⟨hC, hN⟩ := hRc.at (HP.out.f Hz.out) Ht.out Hb.out
      exact seg60_some a0 a1 a2 a aT cap0 cap1 cap2 cap capT gS n0 n1 n2 b p ty nilS fs ss ds zb z W wc B hBw (Nat.le_trans hBs HBc.out.size) (HL.out.keep HBc.out) HP.out Hz.out hC hN _ _ _ _ _ _ _ _ _ _ _ _ _ _ _ _ _ _ _ _ _ _ _ _ _ _ _ _ _ _ _ _ _ _ _ _ _ _ _ _ _ _ _ _ _ _ _ _ _ _ _ _ _ _ _ _ _ _ _ _ _ _ _ _ _ _ _ _ _ _ _ _ _ _ _ _ _ _ _ _ _ _ _ _ _ _ _ _ _ _ _ _ _ _ _ _ _ _ _ _ _ _ _ _ _ _ _ _ _ _ _ _ _ _ _ _ _ _ _ _ _ _ _ _ _ _ _ _ _ _ _ _ _ _ _ _ _ _ _ _ _ _ _ _ _ _ _ _ _ _ _ _ _ _ _ _ _ _ _ _ _ _ _ _ _ _ _ _ _ _ _ _ _ _ _ _ _ _ _ _ _ _ _ _ _ _ _ _ _ _ _ _ _ _ _ _ _ _ _ _ _ _ _ _ _ _ _ _ _ _ _ _ _ _ _ _ _ _ _ _ _ _ _ _ _ _ _ _ _ _ _ _ _ _ _ _ _ _ _ _ _ _ _ _ _ _ _ _ _ _ _ _ _ _ _ _ _ _ _ _ _ _ _ _ _ _ _ _ _ _ _ _ _ _ _ _ _ _ _ _ _ _ _ _ _ _ _ _ _ _ _ _ _ _ _ _ _ _ _ _ _ _ _ _ _ _ _ _ _ _ _ _ _ _ _ _ _ _ _ _ _ _ _ _ _ _ _ _ _ _
end Go.Proofs.Ybulkamrg
