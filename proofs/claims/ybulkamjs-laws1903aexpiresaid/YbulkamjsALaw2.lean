/- LawS1903AExpire from region 29 on: the lookups. -/
import Derived.Test.YbulkamjsBldQ
import Derived.Shelf.RegionOpenPlain
import Derived.Lib.Walk
namespace Go.Proofs.Ybulkamjs
open Go.RowKit Go.Maps Go.WideMaps
set_option linter.unusedSimpArgs false
set_option linter.unusedVariables false
attribute [-go_sem] loadCells
attribute [-simp] Yba.zeroValue40 Yba.typeInfo40 Yba.zeroValue61 Yba.typeInfo61 Yba.zeroValue63 Yba.typeInfo63
attribute [local simp] zero40 zero61 zero63
attribute [local irreducible] z61 z63

set_option maxRecDepth 20000 in
set_option maxHeartbeats 8000000 in
theorem aseg29 (X : Nat → Array Value) (key ix sl sz f : Nat → Nat) (W w : World) (B tb0 s bk mv mk cap n m capz gz t wV wB : Nat) (qz : Option Addr) (zs : List Int) (cp bys dr iv : Int)
    (hBW : Below B W w) (hBs : B ≤ w.heap.size) (hS : St X key ix sl sz w s bk mv mk cap n cp bys 0 f) (hby : bys = sumF sz f n) (hn : n ≤ 1024) (hm : m ≤ 1024) (ht : t < 65536)
    (htb : w.heap[tb0]? = some (.cells #[.int .u64 0, .int .i64 0, .pointer none] 28 (0, 0))) (hV : wV = sumF (ind key t) f n) (hB : wB = sumF (indS key sz t) f n)
    (hSO : ∀ k, StO sl s bk mv mk n f k → B ≤ k) (hzl : zs.length = m) (hzq : 0 < m → qz = some ⟨gz, 0, none⟩ ∧ RowU w gz zs) (hzr : ∀ z ∈ zs, 0 ≤ z ∧ z < 65536) (hzs : ∀ (i j : Nat) (a b : Int), i ≤ j → zs[i]? = some a → zs[j]? = some b → a ≤ b)
    (u0 u1 u2 u6 u7 u8 u9 u10 u11 u12 u14 u19 u20 u21 u22 u23 u24 u25 u26 u27 u28 u29 u30 u31 u32 u33 u34 u35 u36 u37 u38 u39 u40 u41 u42 u43 u44 u45 u46 u47 u48 u49 u50 u51 u52 u53 u54 u55 u56 u57 u58 u59 u60 u61 u62 u63 u64 u65 u66 u67 u68 u69 u70 u71 u72 u73 u74 u75 u76 u77 u78 u79 u80 u81 u82 u83 u84 u85 u86 u87 u88 u89 u90 u91 u92 u93 u94 u95 u96 u97 u98 u99 u100 u101 u102 u103 u104 u105 u106 u107 u108 u109 u110 u111 u112 u113 u114 u115 u116 u117 u118 u119 u120 u121 u122 u123 u124 u125 u126 u127 u128 u129 u130 u131 u132 u133 u134 u135 u136 u137 u138 u139 u140 u141 u142 u143 u144 u145 u146 u147 u148 u149 u150 u151 u152 u153 u154 u155 u156 u157 u158 u159 u160 u161 u162 u163 u164 u165 u166 u167 u168 u169 u170 u171 u172 u173 u174 u175 u176 u177 u178 u179 u180 u181 u182 u183 u184 u185 u186 u187 u188 u189 u190 u191 u192 u193 u194 u195 u196 u197 u198 u199 u200 u201 u202 u203 u204 u205 u206 u207 u208 u209 u210 u211 u212 u213 u214 u215 u216 u217 u218 u219 u220 u221 u222 u223 u224 u225 u226 u227 u228 u229 u230 u231 u232 u233 u234 : Value) :
    (fromR 29 (Yba.f3.body.getD .skip)).wp Yba.prog (bodyPost Yba.prog Yba.f3 fun e w' => e = .returned (.bool true) ∧ Below B W w') { tmps := #[u0, u1, u2, .int .u16 t, .int .u64 dr, .int .u64 iv, u6, u7, u8, u9, u10, u11, u12, .pointer (some ⟨tb0, 0, none⟩), u14, .slice qz m capz, .pointer (some ⟨s, 0, none⟩), .int .i64 (wV : Nat), .int .i64 (wB : Nat), u19, u20, u21, u22, u23, u24, u25, u26, u27, u28, u29, u30, u31, u32, u33, u34, u35, u36, u37, u38, u39, u40, u41, u42, u43, u44, u45, u46, u47, u48, u49, u50, u51, u52, u53, u54, u55, u56, u57, u58, u59, u60, u61, u62, u63, u64, u65, u66, u67, u68, u69, u70, u71, u72, u73, u74, u75, u76, u77, u78, u79, u80, u81, u82, u83, u84, u85, u86, u87, u88, u89, u90, u91, u92, u93, u94, u95, u96, u97, u98, u99, u100, u101, u102, u103, u104, u105, u106, u107, u108, u109, u110, u111, u112, u113, u114, u115, u116, u117, u118, u119, u120, u121, u122, u123, u124, u125, u126, u127, u128, u129, u130, u131, u132, u133, u134, u135, u136, u137, u138, u139, u140, u141, u142, u143, u144, u145, u146, u147, u148, u149, u150, u151, u152, u153, u154, u155, u156, u157, u158, u159, u160, u161, u162, u163, u164, u165, u166, u167, u168, u169, u170, u171, u172, u173, u174, u175, u176, u177, u178, u179, u180, u181, u182, u183, u184, u185, u186, u187, u188, u189, u190, u191, u192, u193, u194, u195, u196, u197, u198, u199, u200, u201, u202, u203, u204, u205, u206, u207, u208, u209, u210, u211, u212, u213, u214, u215, u216, u217, u218, u219, u220, u221, u222, u223, u224, u225, u226, u227, u228, u229, u230, u231, u232, u233, u234], defers := [] } w := by
  have HBW : Hid (Below B W w) := hBW
  have HS : Hid (St X key ix sl sz w s bk mv mk cap n cp bys 0 f) := hS
  have Hby : Hid (bys = sumF sz f n) := hby
  have HV : Hid (wV = sumF (ind key t) f n) := hV
  have HB : Hid (wB = sumF (indS key sz t) f n) := hB
  have HSO : Hid (∀ k, StO sl s bk mv mk n f k → B ≤ k) := hSO
  have Htb : Hid (w.heap[tb0]? = some (.cells #[.int .u64 0, .int .i64 0, .pointer none] 28 (0, 0))) := htb
  have Hzl : Hid (zs.length = m) := hzl
  have Hzq : Hid (0 < m → qz = some ⟨gz, 0, none⟩ ∧ RowU w gz zs) := hzq
  have Hzr : Hid (∀ z ∈ zs, 0 ≤ z ∧ z < 65536) := hzr
  have Hzs : Hid (∀ (i j : Nat) (a b : Int), i ≤ j → zs[i]? = some a → zs[j]? = some b → a ≤ b) := hzs
  clear hBW hS hby hV hB hSO htb hzl hzq hzr hzs
  conv in fromR _ _ => whnf
  go_upto_block 2 with (go_at_call 12; refine (new_lookups _).mono ?_; rintro e w' ⟨rfl, hw'⟩; have Hw' : Hid _ := hw'; clear hw')
  have hw' := Hw'.out
  have H0 : Hid (BldQ w (w.heap.size + 2) w.heap.size (w.heap.size + 1) zs w' 0 [] (.slice none 0 0)) := by
    have e1 : w'.heap[w.heap.size]? = some (.map #[] 0) := by
      rw [hw', (MapKept.heap_alloc _ _).2 _ (by simp; omega), (MapKept.heap_alloc _ _).2 _ (by simp)]; exact (MapKept.heap_alloc w _).1
    have e2 : w'.heap[w.heap.size + 1]? = some (.map #[] 0) := by
      rw [hw', (MapKept.heap_alloc _ _).2 _ (by simp)]
      have := (MapKept.heap_alloc (w.alloc (.map #[] 0)) (.map #[] 0)).1
      simpa using this
    refine ⟨rfl, ?_, ⟨by simp, .inl ⟨rfl, rfl⟩⟩, fun k r h => by simp at h, fun i j r r' h => by simp at h, ?_, .inl ⟨rfl, e2⟩, ?_⟩
    · rw [hw']
      have := (MapKept.heap_alloc ((w.alloc (.map #[] 0)).alloc (.map #[] 0)) (lkObj w.heap.size (w.heap.size + 1) (.slice none 0 0))).1
      simpa using this
    · refine ⟨0, .map [], ?_, Nat.le_refl _, rfl, fun k h => by omega, fun k _ => rfl⟩
      have h1 := World.ownsMap_made (H := Unit) w Yba.prog 25 R1
      exact ownsMap_heap h1 (by rw [e1]; exact (MapKept.heap_alloc w _).1.symm)
    · rw [hw']
      exact (((Below.refl _ w).alloc (Nat.le_refl _) _).alloc (by simp) _).alloc (by simp; omega) _
  clear hw' Hw'
  generalize hl : w.heap.size + 2 = l at H0 ⊢
  generalize hmp : w.heap.size + 1 = mp at H0
  obtain ⟨mn, hmn, H0⟩ : ∃ mn, mn = w.heap.size ∧ Hid (BldQ w l mn mp zs w' 0 [] (.slice none 0 0)) := ⟨_, rfl, H0⟩
  have hlw : w.heap.size ≤ l := by omega
  have hmn0 : w.heap.size ≤ mn := by omega
  have hmp0 : w.heap.size ≤ mp := by omega
  have hmm : mn ≠ mp := by omega
  clear hl hmn hmp
  go_cut [26] from 27 (fun c wc => ∃ (wL : Nat) (its : List Rec) (q : Value), c = .int .i64 (wL : Nat) ∧ Hid (wL = cntZ zs t m) ∧ Hid (BldQ w l mn mp zs wc m its q))
  case first =>
    go_wp2
    go_loopw [141, 26] (fun i c wr => ∃ (j : Nat) (its : List Rec) (q : Value), i = .int .i64 j ∧ j ≤ m ∧ c = .int .i64 (cntZ zs t j : Nat) ∧ Hid (BldQ w l mn mp zs wr j its q)) (fun i _ _ => m - (intOf i).toNat)
    case atStart => exact ⟨0, [], .slice none 0 0, rfl, by omega, rfl, H0⟩
    case round =>
      obtain ⟨j, its, q, rfl, hj, rfl, HQ⟩ := hrel
      by_cases hlt : j < m
      · have j1 : (j : Int) < (m : Int) := by omega
        obtain ⟨z, hz⟩ : ∃ z, zs[j]? = some z := ⟨_, List.getElem?_eq_getElem (by rw [Hzl.out]; exact hlt)⟩
        have hzb := Hzr.out z (List.mem_of_getElem? hz)
        obtain ⟨d, hd⟩ : ∃ d : Nat, z = (d : Int) := ⟨z.toNat, by omega⟩
        subst hd
        have hd6 : d < 65536 := by omega
        have hqz := (Hzq.out (by omega)).1
        subst hqz
        have cz := bcell HQ.out.below ((Hzq.out (by omega)).2.cell hz)
        have htb := (HQ.out.below.block tb0 (lt_of_heap Htb.out)).trans Htb.out
        have l28 : (loadCells ⟨tb0, 0, none⟩ 3).run Yba.prog wr = .ok #[.int .u64 0, .int .i64 0, .pointer none] wr := lcAt (o := 0) (L := [.int .u64 0, .int .i64 0, .pointer none]) htb (fun j hj => by simp)
        have Hz : Hid _ := hz
        clear hz hzb htb
        have h61 := z61_len
        have h63 := z63_len
        have h61n : ¬ z61 = [] := by intro h; rw [h] at h61; cases h61
        have h63n : ¬ z63 = [] := by intro h; rw [h] at h63; cases h63
        have hfs : (List.foldl (fun cs x => cs.setIfInBounds (3 + x.snd) x.fst) (((z63.set 0 (Value.int .u64 ((d : Int) % 1000000000))).set 1 (Value.int .i64 ((d : Int) / 1000000000))).set 2 (Value.pointer none)).toArray (z61.set 0 (Value.int .u64 ((j : Int) + 1))).zipIdx).size = 138 := by rw [fold_put, size_putA]; simp [z63_len]
        go_upto_region 36 with (go_at_call 11; refine (add_eq 0 0 (d : Int) _ (by omega) (by omega) (by omega) (by omega) (by omega) (by omega)).mono ?_; rintro e w3 ⟨rfl, hw3⟩; have hB3 : Below wr.heap.size wr w3 := (by rw [hw3]; exact ((Below.refl _ _).alloc (Nat.le_refl _) _).alloc (by simp) _); have HB3 : Hid (Below wr.heap.size wr w3) := hB3; clear hw3 hB3)
        have ed1 : (d : Int) % 1000000000 = d := by omega
        have ed2 : (d : Int) / 1000000000 = 0 := by omega
        rw [ed1, ed2, fold_put]
        rw [show (putA (((z63.set 0 (.int .u64 (d : Nat))).set 1 (.int .i64 0)).set 2 (.pointer none)).toArray (3 + 0) (z61.set 0 (.int .u64 ((j : Int) + 1)))).setIfInBounds 137 (.int .i64 (j : Nat)) = qA d j from rfl]
        clear ed1 ed2 l28 cz h61 h63 h61n h63n hfs
        generalize hW4 : w3.alloc (.cells (qA d j) 63 (0, 0)) = W4
        have hs3 := HB3.out.size
        have hB4 : Below w3.heap.size w3 W4 := by rw [← hW4]; exact (Below.refl _ _).alloc (Nat.le_refl _) _
        have hB4r : Below wr.heap.size wr W4 := HB3.out.trans (blessS hB4 hs3)
        have Hib : Hid (W4.heap[w3.heap.size]? = some (.cells (qA d j) 63 (0, 0))) := by
          show W4.heap[w3.heap.size]? = _
          rw [← hW4]; exact (MapKept.heap_alloc _ _).1
        generalize hib : w3.heap.size = ib at Hib hs3 ⊢
        have hs4 : ib < W4.heap.size := lt_of_heap Hib.out
        clear hW4 hB4 hib HB3
        -- the map of numbers
        obtain ⟨N, D, hmn, hN, hsz, hhas, hnot⟩ := HQ.out.num
        have hmn4 : W4.ownsMap Yba.prog 25 R1 mn N D := ownsMap_heap hmn (hB4r.block _ (ownsMap_lt hmn))
        obtain ⟨W5, hup, hmn5, ht5⟩ := hmn4.store keyed25 Yba.underlying64 (by unfold maxLen; omega) (key25 (show j + 1 < 100000 by omega)) (val := .pointer (some ⟨ib, 0, none⟩)) (d := .nil) (ps := []) rfl
        have ecst : (((j + 1 : Nat) : Nat) : Int) = (j : Int) + 1 := by omega
        rw [ecst] at hup hmn5
        have HK5 : Hid (Kept (fun k => k = mn) W4 W5) := Kept.turned (Kept.refl (fun k => k = mn) W4) ht5 (fun _ => rfl)
        have ho4 : W4.heap[l]? = some (lkObj mn mp q) := (hB4r.block l (lt_of_heap HQ.out.obj)).trans HQ.out.obj
        have c0 : W4.cell? ⟨l, 0, none⟩ = some (.map (some mn)) := lk_cell ho4 0
        have Hmn5 : Hid _ := hmn5
        have HD : Hid (N ≤ j ∧ Maps.size D = j ∧ (∀ k, k < j → Maps.has D (.int .u64 ((k + 1 : Nat) : Int)) = true) ∧ (∀ k, j ≤ k → Maps.has D (.int .u64 ((k + 1 : Nat) : Int)) = false) ∧ IsMap D ∧ Tidy D) := ⟨hN, hsz, hhas, hnot, hmn.isMap, hmn.tidy keyed25⟩
        have HB4r : Hid (Below wr.heap.size wr W4) := hB4r
        have Ho4 : Hid _ := ho4
        have hnl : mn ≠ l := ownsMap_ne hmn HQ.out.obj
        clear hmn hmn4 hmn5 ht5 hhas hnot hB4r ho4 ecst hN hsz
        go_upto_region 37 with (fail)
        have hl5 : l < W4.heap.size := lt_of_heap Ho4.out
        have ho5 : W5.heap[l]? = some (lkObj mn mp q) := (HK5.out.block l hl5 (fun e => hnl e.symm)).trans Ho4.out
        have c1 : W5.cell? ⟨l, 1, none⟩ = some q := lk_cell ho5 1
        have f1 : W5.frozen? ⟨l, 1, none⟩ = false := lk_frozen ho5 1
        have Hrow5 : Hid (W5.ownsRow w.heap.size 56 1 q its.length (its.map fun r => .pointer (some ⟨r.b, 0, none⟩))) := by
          refine ownsRow_move HQ.out.row (fun g hg => ?_)
          obtain ⟨hg0, cur, hg1⟩ := ownsRow_block HQ.out.row hg
          obtain ⟨N', D', hmn', _⟩ := HQ.out.num
          rw [HK5.out.block g (Nat.lt_of_lt_of_le (lt_of_heap hg1) HB4r.out.size) (fun e => ownsMap_ne hmn' hg1 e.symm), HB4r.out.block g (lt_of_heap hg1)]
        have Ho5 : Hid _ := ho5
        obtain ⟨ti, ti1, ti2, ti3, ti4⟩ := info56
        have hil := HQ.out.len
        have hs5 := HK5.out.size
        clear ho5 c0 hup
        go_wp2_with (at_builtin; refine wpList_append_own _ rfl _ _ 66 rfl w.heap.size 56 ti (.pointer none) 1 8 Yba.underlying66 ti1 ti2 ti3 ti4 rfl (by omega) q its.length (its.map fun r => .pointer (some ⟨r.b, 0, none⟩)) rfl ?qrow ⟨W5.heap.size, 0, none⟩ 1 1 [.pointer (some ⟨ib, 0, none⟩)] rfl ?qc1 ?qc2 ?qc3 ?qc4 ?qc5 ?qc6 ?_)
        case qrow =>
          exact ownsRow_move Hrow5.out (fun g hg => Below.heap_alloc _ _ _ (lt_of_heap (ownsRow_block Hrow5.out hg).2.choose_spec))
        case qc1 => rfl
        case qc2 =>
          intro k u hu
          have hk : k = 0 := by
            cases k with
            | zero => rfl
            | succ k => simp at hu
          subst hk
          have hu' : .pointer (some ⟨ib, 0, none⟩) = u := by simpa using hu
          rw [← hu', show (⟨W5.heap.size, 0, none⟩ : Addr).add 0 = ⟨W5.heap.size, 0, none⟩ from rfl, cell_of_row _ _ 0 _ 56 (0, 0) (MapKept.heap_alloc W5 _).1]; rfl
        case qc3 =>
          intro u hu
          rw [List.mem_singleton.1 hu]; rfl
        case qc4 => unfold maxLen; omega
        case qc5 => omega
        case qc6 => have := HB4r.out.size; have := HQ.out.below.size; simp; omega
        intro q' W7 hrow7 hgrow hnil
        have HK7 : Hid (Kept (fun k => q.ownBlock = some k) W5 W7) := Kept.grown ((Kept.refl _ W5).alloc _) hgrow (fun k e _ => e)
        have hql : q.ownBlock ≠ some l := fun e => blk_ne (ownsRow_block Hrow5.out e).2.choose_spec Ho5.out (by decide) rfl
        have ho7 : W7.heap[l]? = some (lkObj mn mp q) := (HK7.out.block l (by omega) hql).trans Ho5.out
        have c7 : W7.cell? ⟨l, 1, none⟩ = some q := lk_cell ho7 1
        have f7 : W7.frozen? ⟨l, 1, none⟩ = false := lk_frozen ho7 1
        obtain ⟨gq, capq, hq'⟩ : ∃ gq capq, q' = .slice (some ⟨gq, 0, none⟩) (j + 1 : Nat) capq := by
          obtain ⟨_, ⟨_, h⟩ | ⟨g, c, _, h, _⟩⟩ := hrow7
          · simp at h
          · exact ⟨g, c, h⟩
        subst hq'
        have Hrow7 : Hid (W7.ownsRow w.heap.size 56 1 (.slice (some ⟨gq, 0, none⟩) (j + 1 : Nat) capq) (j + 1) ((its.map fun r => .pointer (some ⟨r.b, 0, none⟩)) ++ [.pointer (some ⟨ib, 0, none⟩)])) := hrow7
        have Ho7 : Hid _ := ho7
        clear hgrow hrow7 hnil ho7 c1 f1
        go_upto_region 38 with (fail)
        have hq'l : gq ≠ l := by
          obtain ⟨_, cur, hc⟩ := ownsRow_block Hrow7.out (g := gq) rfl
          exact blk_ne hc Ho7.out (by decide)
        have hp8 : Pend (W7.setCell ⟨l, 1, none⟩ (.slice (some ⟨gq, 0, none⟩) (j + 1) capq)).drew mp j := by
          have hp := HQ.out.pend
          have h1 := hp.lt
          have h2 : mp ≠ l := hp.ne HQ.out.obj
          have h3 := HB4r.out.size
          refine hp.move ?_
          show (W7.setCell ⟨l, 1, none⟩ _).heap[mp]? = _
          rw [Below.heap_setCell _ _ _ _ (fun e => h2 e), HK7.out.block mp (by omega) (fun e => hp.ne (ownsRow_block HQ.out.row e).2.choose_spec rfl), HK5.out.block mp (by omega) (fun e => hmm e.symm), HB4r.out.block mp h1]
        have ho8 : (W7.setCell ⟨l, 1, none⟩ (.slice (some ⟨gq, 0, none⟩) (j + 1) capq)).drew.heap[l]? = some (lkObj mn mp (.slice (some ⟨gq, 0, none⟩) (j + 1) capq)) := heap_setCell_same W7 l 1 _ 69 _ Ho7.out
        have HN : Hid (BldQ w l mn mp zs (setB (W7.setCell ⟨l, 1, none⟩ (.slice (some ⟨gq, 0, none⟩) (j + 1) capq)).drew mp (.map #[pe ((j : Int) + 1)] 1)) (j + 1) (its ++ [⟨ib, 0, d, j + 1, qA d j⟩]) (.slice (some ⟨gq, 0, none⟩) (j + 1) capq)) := by
          have hr7 := Hrow7.out
          refine HQ.out.step (by omega) Hz.out hmn0 hmp0 hlw hmm HB4r.out hs3 Hib.out HK5.out Hmn5.out HD.out HK7.out ?_ rfl
          rw [hil]
          exact hr7
        generalize hW8 : W7.setCell ⟨l, 1, none⟩ (.slice (some ⟨gq, 0, none⟩) (j + 1) capq) = W8 at hp8 ho8 HN ⊢
        obtain ⟨W9, hen, hp9, hset, hoth⟩ := pend_entry hp8
        have c8 : W8.drew.cell? ⟨l, 2, none⟩ = some (.map (some mp)) := lk_cell ho8 2
        have hmpl : l ≠ mp := fun e => hp8.ne ho8 e.symm
        have c9 : W9.cell? ⟨l, 2, none⟩ = some (.map (some mp)) := lk_cell ((hoth l hmpl).trans ho8) 2
        have k8 : (Instr.lookup 67 (.map (some mp)) (.agg zid.toArray) false).run Yba.prog W8.drew = .ok (.int .i64 (j : Nat)) W8.drew := hp8.look
        have k9 : (Instr.lookup 67 (.map (some mp)) (.agg zid.toArray) false).run Yba.prog W9 = .ok (.int .i64 (j : Nat)) W9 := look_one hp9
        have hes := store_one ((j : Int) + 1) hp9
        rw [hset] at hes
        have HSn : (fun w' : World => w'.cell? ⟨l, 2, none⟩ = some (.map (some mp)) ∧ (Instr.lookup 67 (.map (some mp)) (.agg zid.toArray) false).run Yba.prog w' = .ok (.int .i64 (j : Nat)) w') W8.drew := ⟨c8, k8⟩
        have HS9 : Hid ((fun w' : World => w'.cell? ⟨l, 2, none⟩ = some (.map (some mp)) ∧ (Instr.lookup 67 (.map (some mp)) (.agg zid.toArray) false).run Yba.prog w' = .ok (.int .i64 (j : Nat)) w') W9) := ⟨c9, k9⟩
        clear c8 k8 c9 k9 hW8 hoth hset hp9 hp8 ho8 hmpl c7 f7 Hrow7 Ho7 Ho5 Ho4 HB4r HD Hmn5 HK5 HK7 hql hq'l Hrow5 Hib
        refine region_late (S := fun w' : World => w'.cell? ⟨l, 2, none⟩ = some (.map (some mp)) ∧ (Instr.lookup 67 (.map (some mp)) (.agg zid.toArray) false).run Yba.prog w' = .ok (.int .i64 (j : Nat)) w') (late := fun i => i == 9) (by kernel_rfl) ?_
        refine anyLate_takeW (i := 0) (v := .pointer (some ⟨l, 0, none⟩)) rfl (by kernel_rfl) (by kernel_rfl) (by kernel_rfl) (fun _ _ _ h => h) (.inl ⟨by kernel_rfl, fun w _ => by go_simp⟩) ?_
        simp only [Act.put, List.setIfInBounds_toArray, List.set_cons_zero, List.set_cons_succ]
        refine anyLate_takeW (i := 1) (v := .pointer (some ⟨l, 0, none⟩)) rfl (by kernel_rfl) (by kernel_rfl) (by kernel_rfl) (fun _ _ _ h => h) (.inl ⟨by kernel_rfl, fun w _ => by go_simp⟩) ?_
        simp only [Act.put, List.setIfInBounds_toArray, List.set_cons_zero, List.set_cons_succ]
        refine anyLate_takeW (i := 2) (v := .pointer (some ⟨l, 2, none⟩)) rfl (by kernel_rfl) (by kernel_rfl) (by kernel_rfl) (fun _ _ _ h => h) (.inl ⟨by kernel_rfl, fun w _ => by go_simp⟩) ?_
        simp only [Act.put, List.setIfInBounds_toArray, List.set_cons_zero, List.set_cons_succ]
        refine anyLate_take (i := 3) (v := .map (some mp)) rfl (by kernel_rfl) (by kernel_rfl) (by kernel_rfl) (fun _ _ _ h => h) rfl (by kernel_rfl) (.inl ⟨by kernel_rfl, fun w hSw => by (obtain ⟨s1, s2⟩ := hSw; go_simp)⟩) HSn ?_
        simp only [Act.put, List.setIfInBounds_toArray, List.set_cons_zero, List.set_cons_succ]
        refine anyLate_takeW (i := 4) (v := .agg zid.toArray) rfl (by kernel_rfl) (by kernel_rfl) (by kernel_rfl) (fun _ _ _ h => h) (.inl ⟨by kernel_rfl, fun w _ => by go_simp⟩) ?_
        simp only [Act.put, List.setIfInBounds_toArray, List.set_cons_zero, List.set_cons_succ]
        refine anyLate_take (i := 5) (v := .int .i64 (j : Nat)) rfl (by kernel_rfl) (by kernel_rfl) (by kernel_rfl) (fun _ _ _ h => h) rfl (by kernel_rfl) (.inl ⟨by kernel_rfl, fun w hSw => by (obtain ⟨s1, s2⟩ := hSw; go_simp)⟩) HSn ?_
        simp only [Act.put, List.setIfInBounds_toArray, List.set_cons_zero, List.set_cons_succ]
        refine anyLate_takeW (i := 6) (v := .int .i64 ((j : Int) + 1)) rfl (by kernel_rfl) (by kernel_rfl) (by kernel_rfl) (fun _ _ _ h => h) (.inl ⟨by kernel_rfl, fun w _ => by (go_simp; exact IntWalk.i64_in _ (by omega))⟩) ?_
        simp only [Act.put, List.setIfInBounds_toArray, List.set_cons_zero, List.set_cons_succ]
        refine anyLate_ready (rs := [7]) (by kernel_rfl) (by simp) ?_
        refine AllLate.cons rfl (fun K' hK' => ?_) AllLate.nil
        go_simp
        refine hK'.out _ _ (fun _ _ => HS9.out) ?_
        clear hK'
        try simp only [Act.put, List.setIfInBounds_toArray, List.set_cons_zero, List.set_cons_succ]
        refine anyLate_takeW (i := 8) (v := .int .i64 0) rfl (by kernel_rfl) (by kernel_rfl) (by kernel_rfl) (fun _ _ _ h => h) (.inl ⟨by kernel_rfl, fun w _ => by go_simp⟩) ?_
        simp only [Act.put, List.setIfInBounds_toArray, List.set_cons_zero, List.set_cons_succ]
        refine anyLate_ready (rs := [9]) (by kernel_rfl) (by simp) ?_
        refine AllLate.cons rfl (fun K' hK' => ?_) AllLate.nil
        go_simp
        refine hK'.out _ _ (fun h => by simp at h) ?_
        clear hK' hen hes HSn HS9
        refine anyLate_done (by kernel_rfl) ?_ _
        generalize setB W8.drew mp (.map #[pe ((j : Int) + 1)] 1) = W' at HN ⊢
        have hcl := cntZ_le zs t j
        by_cases hdt : t < d
        · have hdt' : (t : Int) < (d : Int) := by omega
          have HC : Hid (cntZ zs t (j + 1) = cntZ zs t j + 1) := by
            show cntZ zs t (j + 1) = cntZ zs t j + 1
            rw [cntZ, List.getD_eq_getElem?_getD, Hz.out, if_pos (by simpa using hdt)]
          go_wp2
          go_roundw
          case rel => exact ⟨j + 1, _, _, by simp, by omega, by rw [HC.out]; simp, HN⟩
          case measure => simp [intOf]; omega
        · have hdt' : ¬ (t : Int) < (d : Int) := by omega
          have HC : Hid (cntZ zs t (j + 1) = cntZ zs t j) := by
            show cntZ zs t (j + 1) = cntZ zs t j
            rw [cntZ, List.getD_eq_getElem?_getD, Hz.out, if_neg (by simpa using hdt)]; rfl
          go_wp2
          go_roundw
          case rel => exact ⟨j + 1, _, _, by simp, by omega, by rw [HC.out], HN⟩
          case measure => simp [intOf]; omega
      · have hje : m = j := by omega
        subst hje
        go_wp2
        go_meet
        exact ⟨_, its, q, rfl, rfl, HQ⟩
  case rest =>
    obtain ⟨wL, its, q, rfl, HL, HQ⟩ := hcut
    go_step
    obtain ⟨bkq, capq, hLk, hLO, hcnt⟩ := HQ.out.lk hm Hzr.out Hzs.out hmn0 hmp0 hlw hmm t
    have hSO := HSO.out
    have hbl := HQ.out.below
    have hkO : ∀ k, StO sl s bk mv mk n f k → wc.heap[k]? = w.heap[k]? := fun k hk => hbl.block k (StO.lt HS.out hk)
    have hv1 : mv < w.heap.size := StO.lt HS.out (.inr (.inr (.inl rfl)))
    have hv2 : mk < w.heap.size := StO.lt HS.out (.inr (.inr (.inr (.inl rfl))))
    exact aseg42 X (fun b => (rF its b).A) key ix sl sz (fun b => (rF its b).d) (fun b => (rF its b).sz) f (fF its) W wc B tb0 s bk mv mk cap n l bkq mn mp capq m t wV wB wL cp bys dr iv (HBW.out.trans (blessS hbl hBs)) (Nat.le_trans hBs hbl.size) (HS.out.keepO hkO) hLk ⟨by omega, by omega, by omega, by omega⟩ Hby.out hn hm ht ((hbl.block tb0 (lt_of_heap Htb.out)).trans Htb.out) HV.out HB.out (HL.out.trans hcnt) hSO (fun k hk => Nat.le_trans hBs (hLO k hk)) _ _ _ _ _ _ _ _ _ _ _ _ _ _ _ _ _ _ _ _ _ _ _ _ _ _ _ _ _ _ _ _ _ _ _ _ _ _ _ _ _ _ _ _ _ _ _ _ _ _ _ _ _ _ _ _ _ _ _ _ _ _ _ _ _ _ _ _ _ _ _ _ _ _ _ _ _ _ _ _ _ _ _ _ _ _ _ _ _ _ _ _ _ _ _ _ _ _ _ _ _ _ _ _ _ _ _ _ _ _ _ _ _ _ _ _ _ _ _ _ _ _ _ _ _ _ _ _ _ _ _ _ _ _ _ _ _ _ _ _ _ _ _ _ _ _ _ _ _ _ _ _ _ _ _ _ _ _ _ _ _ _ _ _ _ _ _ _ _ _ _ _ _ _ _ _ _ _ _ _ _ _ _ _ _ _ _ _ _ _ _ _ _ _ _ _ _ _ _ _ _ _ _ _ _ _ _ _ _ _ _ _ _ _ _ _ _ _ _ _ _ _ _ _ _ _
end Go.Proofs.Ybulkamjs
