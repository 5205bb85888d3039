/- LawS1903AExpire from region 12 on: the store. -/
import Derived.Test.YbulkamjsALaw2
import Derived.Test.YbulkamjsReg20
namespace Go.Proofs.Ybulkamjs
open Go.RowKit Go.Maps Go.WideMaps
set_option linter.unusedSimpArgs false
set_option linter.unusedVariables false
attribute [-go_sem] loadCells storeCells
attribute [-simp] Yba.zeroValue40 Yba.typeInfo40 Yba.zeroValue44 Yba.typeInfo44 Yba.zeroValue46 Yba.typeInfo46 Yba.zeroValue51 Yba.typeInfo51 Yba.zeroValue53 Yba.typeInfo53
attribute [local simp] zero40 zero44 zero46 zero51 zero53
attribute [local irreducible] zid zt z46 z51 z53 aid tk vk tz vz iz sg

set_option maxRecDepth 20000 in
set_option maxHeartbeats 16000000 in
theorem aseg12 (W w w0 : World) (B tb0 n m ln capv capz lcap gv gz t s mv mk : Nat) (lq qv qz : Option Addr) (vs zs : List Int) (yf : Nat → Nat) (dr iv : Int)
    (hBW : Below B W w) (hBs : B ≤ w.heap.size) (hn : n ≤ 1024) (hm : m ≤ 1024) (ht : t < 65536) (hln : ln ≤ 9223372036854775807)
    (htb : w.heap[tb0]? = some (.cells #[.int .u64 0, .int .i64 0, .pointer none] 28 (0, 0)))
    (hlq : 0 < ln → ∃ x, lq = some x ∧ ∀ i, i < ln → yf i < 256 ∧ w.cell? (x.add i) = some (.int .u8 (yf i : Nat)))
    (hvl : vs.length = n) (hvq : 0 < n → qv = some ⟨gv, 0, none⟩ ∧ RowU w gv vs) (hvr : ∀ z ∈ vs, 0 ≤ z ∧ z < 65536) (hvs : ∀ (i j : Nat) (a b : Int), i ≤ j → vs[i]? = some a → vs[j]? = some b → a ≤ b)
    (hzl : zs.length = m) (hzq : 0 < m → qz = some ⟨gz, 0, none⟩ ∧ RowU w gz zs) (hzr : ∀ z ∈ zs, 0 ≤ z ∧ z < 65536) (hzs : ∀ (i j : Nat) (a b : Int), i ≤ j → zs[i]? = some a → zs[j]? = some b → a ≤ b)
    (hmv0 : w.heap.size ≤ mv) (hmk0 : w.heap.size ≤ mk) (hs0 : w.heap.size ≤ s) (hmm : mv ≠ mk) (hb0 : BldS w s mv mk vs (szOf ln yf) w0 0 [] (.slice none 0 0))
    (u0 u2 u6 u7 u8 u9 u10 u11 u12 u19 u20 u21 u22 u23 u24 u25 u26 u27 u28 u29 u30 u31 u32 u33 u34 u35 u36 u37 u38 u39 u40 u41 u42 u43 u44 u45 u46 u47 u48 u49 u50 u51 u52 u53 u54 u55 u56 u57 u58 u59 u60 u61 u62 u63 u64 u65 u66 u67 u68 u69 u70 u71 u72 u73 u74 u75 u76 u77 u78 u79 u80 u81 u82 u83 u84 u85 u86 u87 u88 u89 u90 u91 u92 u93 u94 u95 u96 u97 u98 u99 u100 u101 u102 u103 u104 u105 u106 u107 u108 u109 u110 u111 u112 u113 u114 u115 u116 u117 u118 u119 u120 u121 u122 u123 u124 u125 u126 u127 u128 u129 u130 u131 u132 u133 u134 u135 u136 u137 u138 u139 u140 u141 u142 u143 u144 u145 u146 u147 u148 u149 u150 u151 u152 u153 u154 u155 u156 u157 u158 u159 u160 u161 u162 u163 u164 u165 u166 u167 u168 u169 u170 u171 u172 u173 u174 u175 u176 u177 u178 u179 u180 u181 u182 u183 u184 u185 u186 u187 u188 u189 u190 u191 u192 u193 u194 u195 u196 u197 u198 u199 u200 u201 u202 u203 u204 u205 u206 u207 u208 u209 u210 u211 u212 u213 u214 u215 u216 u217 u218 u219 u220 u221 u222 u223 u224 u225 u226 u227 u228 u229 u230 u231 u232 u233 u234 : Value) :
    (fromR 12 (Yba.f3.body.getD .skip)).wp Yba.prog (bodyPost Yba.prog Yba.f3 fun e w' => e = .returned (.bool true) ∧ Below B W w') { tmps := #[u0, .slice lq ln lcap, u2, .int .u16 t, .int .u64 dr, .int .u64 iv, u6, u7, u8, u9, u10, u11, u12, .pointer (some ⟨tb0, 0, none⟩), .slice qv n capv, .slice qz m capz, .pointer (some ⟨s, 0, none⟩), .int .i64 0, .int .i64 0, u19, u20, u21, u22, u23, u24, u25, u26, u27, u28, u29, u30, u31, u32, u33, u34, u35, u36, u37, u38, u39, u40, u41, u42, u43, u44, u45, u46, u47, u48, u49, u50, u51, u52, u53, u54, u55, u56, u57, u58, u59, u60, u61, u62, u63, u64, u65, u66, u67, u68, u69, u70, u71, u72, u73, u74, u75, u76, u77, u78, u79, u80, u81, u82, u83, u84, u85, u86, u87, u88, u89, u90, u91, u92, u93, u94, u95, u96, u97, u98, u99, u100, u101, u102, u103, u104, u105, u106, u107, u108, u109, u110, u111, u112, u113, u114, u115, u116, u117, u118, u119, u120, u121, u122, u123, u124, u125, u126, u127, u128, u129, u130, u131, u132, u133, u134, u135, u136, u137, u138, u139, u140, u141, u142, u143, u144, u145, u146, u147, u148, u149, u150, u151, u152, u153, u154, u155, u156, u157, u158, u159, u160, u161, u162, u163, u164, u165, u166, u167, u168, u169, u170, u171, u172, u173, u174, u175, u176, u177, u178, u179, u180, u181, u182, u183, u184, u185, u186, u187, u188, u189, u190, u191, u192, u193, u194, u195, u196, u197, u198, u199, u200, u201, u202, u203, u204, u205, u206, u207, u208, u209, u210, u211, u212, u213, u214, u215, u216, u217, u218, u219, u220, u221, u222, u223, u224, u225, u226, u227, u228, u229, u230, u231, u232, u233, u234], defers := [] } w0 := by
  have HBW : Hid (Below B W w) := hBW
  have Htb : Hid (w.heap[tb0]? = some (.cells #[.int .u64 0, .int .i64 0, .pointer none] 28 (0, 0))) := htb
  have Hlq : Hid (0 < ln → ∃ x, lq = some x ∧ ∀ i, i < ln → yf i < 256 ∧ w.cell? (x.add i) = some (.int .u8 (yf i : Nat))) := hlq
  have Hvl : Hid (vs.length = n) := hvl
  have Hvq : Hid (0 < n → qv = some ⟨gv, 0, none⟩ ∧ RowU w gv vs) := hvq
  have Hvr : Hid (∀ z ∈ vs, 0 ≤ z ∧ z < 65536) := hvr
  have Hvs : Hid (∀ (i j : Nat) (a b : Int), i ≤ j → vs[i]? = some a → vs[j]? = some b → a ≤ b) := hvs
  have Hzl : Hid (zs.length = m) := hzl
  have Hzq : Hid (0 < m → qz = some ⟨gz, 0, none⟩ ∧ RowU w gz zs) := hzq
  have Hzr : Hid (∀ z ∈ zs, 0 ≤ z ∧ z < 65536) := hzr
  have Hzs : Hid (∀ (i j : Nat) (a b : Int), i ≤ j → zs[i]? = some a → zs[j]? = some b → a ≤ b) := hzs
  have H0 : Hid (BldS w s mv mk vs (szOf ln yf) w0 0 [] (.slice none 0 0)) := hb0
  clear hBW htb hlq hvl hvq hvr hvs hzl hzq hzr hzs hb0
  conv in fromR _ _ => whnf
  go_upto_block 0 with (fail)
  go_cut [17, 18] from 19 (fun c1 c2 wc => ∃ (its : List Rec) (q : Value), c1 = .int .i64 (cntZ vs t n : Nat) ∧ c2 = .int .i64 (bytZ vs (szOf ln yf) t n : Nat) ∧ Hid (BldS w s mv mk vs (szOf ln yf) wc n its q))
  case first =>
    go_wp2
    go_loopw [65, 17, 18] (fun i c1 c2 wr => ∃ (j : Nat) (its : List Rec) (q : Value), i = .int .i64 j ∧ j ≤ n ∧ c1 = .int .i64 (cntZ vs t j : Nat) ∧ c2 = .int .i64 (bytZ vs (szOf ln yf) t j : Nat) ∧ Hid (BldS w s mv mk vs (szOf ln yf) wr j its q)) (fun i _ _ _ => n - (intOf i).toNat)
    case atStart => exact ⟨0, [], .slice none 0 0, rfl, by omega, rfl, rfl, H0⟩
    case round =>
      obtain ⟨j, its, q, rfl, hj, rfl, rfl, HQ⟩ := hrel
      by_cases hlt : j < n
      · have j1 : (j : Int) < (n : Int) := by omega
        obtain ⟨z, hz⟩ : ∃ z, vs[j]? = some z := ⟨_, List.getElem?_eq_getElem (by rw [Hvl.out]; exact hlt)⟩
        have hzb := Hvr.out z (List.mem_of_getElem? hz)
        obtain ⟨d, hd⟩ : ∃ d : Nat, z = (d : Int) := ⟨z.toNat, by omega⟩
        subst hd
        have hd6 : d < 65536 := by omega
        have hqv := (Hvq.out (by omega)).1
        subst hqv
        have cz := bcell HQ.out.below ((Hvq.out (by omega)).2.cell hz)
        have Hz : Hid _ := hz
        clear hz hzb
        go_upto_if 73 with (fail)
        clear cz
        go_cut [21] from 70 to 137 (fun c wc => c = .int .i64 (szOf ln yf j : Nat) ∧ wc = wr)
        case first =>
          --A{
          by_cases hjl : j < ln
          · have j2 : (j : Int) < (ln : Int) := by omega
            obtain ⟨x, hx, hy⟩ := Hlq.out (by omega)
            subst hx
            obtain ⟨hy1, hy2⟩ := hy j hjl
            have cy := bcell HQ.out.below hy2
            have hye : szOf ln yf j = yf j % 16 := by rw [szOf, if_pos hjl]
            have ey : ((yf j % 16 : Nat) : Int) = (yf j : Int) % 16 := by omega
            have Hye : Hid _ := hye
            have Hey : Hid _ := ey
            clear hy2 hy hye ey
            generalize yf j = yj at hy1 cy Hye Hey
            go_wp2
            go_meet
            rw [Hye.out, Hey.out]
            exact ⟨by simp, rfl⟩
          · have j2 : ¬ (j : Int) < (ln : Int) := by omega
            have hye : Hid (szOf ln yf j = 0) := by show szOf ln yf j = 0; rw [szOf, if_neg hjl]
            go_wp2
            go_meet
            exact ⟨by rw [hye.out]; rfl, rfl⟩
          --A}
        case rest =>
          obtain ⟨rfl, hwc⟩ := hcut
          subst hwc
          obtain ⟨wr, hwr⟩ : ∃ wr, wr = wc := ⟨_, rfl⟩
          subst hwr
          have hz16 := szOf_lt ln yf j
          obtain ⟨zj, hzj⟩ : ∃ zj, zj = szOf ln yf j := ⟨_, rfl⟩
          rw [← hzj] at hz16 ⊢
          have Hzj : Hid (zj = szOf ln yf j) := hzj
          clear hzj
          have h44 := zt_len
          have htz := tz_len j
          have haid := aid_len j
          have htk := tk_len j
          have f44 := fold44 j
          have ts := tz_set j
          have n44 := nonnil h44
          have ntz := nonnil htz
          have nai := nonnil haid
          have ntk := nonnil htk
          go_upto_region 19 with (go_at_call 10; refine (akey j _ (by omega)).mono ?_; rintro e w1 ⟨rfl, hw1⟩; have HB1 : Hid (Below wr.heap.size wr w1) := hw1; have hst := st_alloc w1 zt (tk j) 44 (by rw [tk_len, zt_len]) (tk_one j); clear hw1)
          clear f44 ts ntz htz hst
          generalize hW4 : w1.alloc (.cells (tk j).toArray 44 (0, 0)) = W4
          have Htk : Hid (W4.heap[w1.heap.size]? = some (.cells (tk j).toArray 44 (0, 0))) := by
            show W4.heap[w1.heap.size]? = _
            rw [← hW4]; exact (MapKept.heap_alloc _ _).1
          have HB4 : Hid (Below wr.heap.size wr W4) := by
            show Below _ _ _
            rw [← hW4]; exact HB1.out.alloc HB1.out.size _
          have hs4 := HB1.out.size
          generalize w1.heap.size = tkb at Htk hs4 ⊢
          clear hW4 HB1
          go_cut [23] from 83 to 137 (fun p wc => ∃ vb, p = .pointer (some ⟨vb, 0, none⟩) ∧ Hid (wc.heap[vb]? = some (.cells (vk j).toArray 46 (0, 0))) ∧ Hid (Below W4.heap.size W4 wc))
          case first =>
            --B{
            have h46 := z46_len
            have hvz := vz_len j
            have hvk := vk_len j
            have fa := fold46a j
            have fb := fold46b j
            have n46 := nonnil h46
            have nvz := nonnil hvz
            have nvk := nonnil hvk
            have HSB : Hid (∀ w' : World, Below W4.heap.size W4 w' → (loadCells ⟨tkb, 0, none⟩ 65).run Yba.prog w' = .ok (tk j).toArray w' ∧ True) := fun w' h => ⟨ld_all ((h.block tkb (lt_of_heap Htk.out)).trans Htk.out) (tk_len j), trivial⟩
            have HSn : (fun w' : World => (loadCells ⟨tkb, 0, none⟩ 65).run Yba.prog w' = .ok (tk j).toArray w' ∧ True) W4.drew := HSB.out _ (Below.refl _ _).drew
            refine region_late (S := fun w' : World => (loadCells ⟨tkb, 0, none⟩ 65).run Yba.prog w' = .ok (tk j).toArray w' ∧ True) (late := fun _ => false) (by kernel_rfl) ?_
            refine anyLate_take (i := 0) (v := .agg (tk j).toArray) rfl (by kernel_rfl) (by kernel_rfl) (by kernel_rfl) (fun _ _ _ h => h) rfl (by kernel_rfl) (.inl ⟨by kernel_rfl, fun w hSw => by (obtain ⟨s1, s2⟩ := hSw; go_simp)⟩) HSn ?_
            simp only [Act.put, List.setIfInBounds_toArray, List.set_cons_zero, List.set_cons_succ]
            refine anyLate_takeW (i := 1) (v := .int .i64 j) rfl (by kernel_rfl) (by kernel_rfl) (by kernel_rfl) (fun _ _ _ h => h) (.inl ⟨by kernel_rfl, fun w _ => by go_simp⟩) ?_
            simp only [Act.put, List.setIfInBounds_toArray, List.set_cons_zero, List.set_cons_succ]
            refine anyLate_ready (rs := [2, 4]) (by kernel_rfl) (by simp) ?_
            refine AllLate.cons rfl (fun K' hK' => ?_) (AllLate.cons rfl (fun K' hK' => ?_) AllLate.nil)
            · go_simp
              refine Calls.mono (akey j _ (by omega)) ?_
              rintro e w5 ⟨rfl, hw5⟩
              have HB5 : Hid (Below W4.heap.size W4 w5) := (Below.refl _ _).drew.trans hw5
              refine hK'.out _ _ (fun _ _ => HSB.out _ HB5.out) ?_
              clear hK' hw5 HSn
              try simp only [Act.put, List.setIfInBounds_toArray, List.set_cons_zero, List.set_cons_succ]
              refine anyLate_takeW (i := 3) (v := .agg (vk j).toArray) rfl (by kernel_rfl) (by kernel_rfl) (by kernel_rfl) (fun _ _ _ h => h) (.inl ⟨by kernel_rfl, fun w _ => by go_simp⟩) ?_
              simp only [Act.put, List.setIfInBounds_toArray, List.set_cons_zero, List.set_cons_succ]
              refine anyLate_ready (rs := [4]) (by kernel_rfl) (by simp) ?_
              refine AllLate.cons rfl (fun K' hK' => ?_) AllLate.nil
              go_simp
              refine hK'.out _ _ (fun _ _ => HSB.out _ (HB5.out.alloc HB5.out.size _)) ?_
              clear hK'
              try simp only [Act.put, List.setIfInBounds_toArray, List.set_cons_zero, List.set_cons_succ]
              have hst := st_alloc w5 z46 (vk j) 46 (by rw [vk_len, z46_len]) (vk_one j)
              refine anyLate_ready (rs := [5]) (by kernel_rfl) (by simp) ?_
              refine AllLate.cons rfl (fun K' hK' => ?_) AllLate.nil
              go_simp
              refine hK'.out _ _ (fun _ _ => HSB.out _ (HB5.out.alloc HB5.out.size _)) ?_
              clear hK' hst
              refine anyLate_done (by kernel_rfl) ?_ _
              go_wp2
              go_meet
              exact ⟨_, rfl, (MapKept.heap_alloc _ _).1, HB5.out.alloc HB5.out.size _⟩
            · go_simp
              refine hK'.out _ _ (fun _ _ => HSB.out _ ((Below.refl _ _).drew.alloc (Nat.le_refl _) _)) ?_
              clear hK'
              try simp only [Act.put, List.setIfInBounds_toArray, List.set_cons_zero, List.set_cons_succ]
              refine anyLate_ready (rs := [2]) (by kernel_rfl) (by simp) ?_
              refine AllLate.cons rfl (fun K' hK' => ?_) AllLate.nil
              go_simp
              refine Calls.mono (akey j _ (by omega)) ?_
              rintro e w5 ⟨rfl, hw5⟩
              have hB5 : Below W4.heap.size W4 w5 := ((Below.refl _ W4).drew.alloc (Nat.le_refl _) _).trans (blessS hw5 (by show W4.heap.size ≤ _; simp))
              have hv5 : w5.heap[W4.heap.size]? = some (.cells z46.toArray 46 (0, 0)) := by
                rw [hw5.block W4.heap.size (by show W4.heap.size < (W4.alloc _).heap.size; simp)]
                exact (MapKept.heap_alloc W4.drew _).1
              have HB5 : Hid (Below W4.heap.size W4 w5) := hB5
              refine hK'.out _ _ (fun _ _ => HSB.out _ HB5.out) ?_
              clear hK' hw5 hB5 HSn
              try simp only [Act.put, List.setIfInBounds_toArray, List.set_cons_zero, List.set_cons_succ]
              have hst := sc65 (L := vk j) hv5 (by simp [vk_len, z46_len]) (vk_one j)
              have Hv6 : Hid ((w5.setCells W4.heap.size 0 (vk j)).heap[W4.heap.size]? = some (.cells (vk j).toArray 46 (0, 0))) := by
                show (w5.setCells W4.heap.size 0 (vk j)).heap[W4.heap.size]? = _
                rw [heap_putA (vk j) 0 _ _ hv5, put_all (by simp [vk_len, z46_len])]
              have HB6 : Hid (Below W4.heap.size W4 (w5.setCells W4.heap.size 0 (vk j))) := Below_setCells _ (Nat.le_refl _) _ _ _ HB5.out
              clear hv5
              refine anyLate_takeW (i := 3) (v := .agg (vk j).toArray) rfl (by kernel_rfl) (by kernel_rfl) (by kernel_rfl) (fun _ _ _ h => h) (.inl ⟨by kernel_rfl, fun w _ => by go_simp⟩) ?_
              simp only [Act.put, List.setIfInBounds_toArray, List.set_cons_zero, List.set_cons_succ]
              refine anyLate_ready (rs := [5]) (by kernel_rfl) (by simp) ?_
              refine AllLate.cons rfl (fun K' hK' => ?_) AllLate.nil
              go_simp
              refine hK'.out _ _ (fun _ _ => HSB.out _ HB6.out) ?_
              clear hK' hst
              refine anyLate_done (by kernel_rfl) ?_ _
              go_wp2
              go_meet
              exact ⟨_, rfl, Hv6.out, HB6.out⟩
            --B}
          case rest =>
            obtain ⟨vb, rfl, Hvb, HB5⟩ := hcut
            obtain ⟨W5, hW5⟩ : ∃ W5, W5 = wc := ⟨_, rfl⟩
            subst hW5
            have Htk5 : Hid (W5.heap[tkb]? = some (.cells (tk j).toArray 44 (0, 0))) := (HB5.out.block tkb (lt_of_heap Htk.out)).trans Htk.out
            have hs5 := HB5.out.size
            have hs4r := HB4.out.size
            have HB5r : Hid (Below wr.heap.size wr W5) := HB4.out.trans (blessS HB5.out hs4r)
            have Htb5 : Hid (W5.heap[tb0]? = some (.cells #[.int .u64 0, .int .i64 0, .pointer none] 28 (0, 0))) := by
              have h1 := lt_of_heap Htb.out
              have h2 := HQ.out.below.size
              exact ((HB5r.out.block tb0 (by omega)).trans (HQ.out.below.block tb0 h1)).trans Htb.out
            have hs45 : tkb < W4.heap.size := lt_of_heap Htk.out
            clear HB4 HB5 Htk
            go_upto_region 20 with (fail)
            go_cut [24] from 87 to 137 (fun p wc => ∃ (ib : Nat) (A : Array Value), p = .pointer (some ⟨ib, 0, none⟩) ∧ Hid (wc.heap[ib]? = some (.cells A 53 (0, 0))) ∧ Hid (ItS A j d zj) ∧ W5.heap.size ≤ ib ∧ Hid (Below W5.heap.size W5 wc))
            case first =>
              --C{
              refine seg20 W5 tb0 j d zj vb _ _ (fun _ _ i _ _ h => by cases i <;> exact h) hd6 hz16 Htb5.out Hvb.out _ _ _ _ _ _ _ _ _ _ _ _ _ _ _ _ _ _ _ _ _ _ _ _ _ _ _ _ _ _ _ _ _ _ _ _ _ _ _ _ _ _ _ _ _ _ _ _ _ _ _ _ _ _ _ _ _ _ _ _ _ _ _ _ _ _ _ _ _ _ _ _ _ _ _ _ _ _ _ _ _ _ _ _ _ _ _ _ _ _ _ _ _ _ _ _ _ _ _ _ _ _ _ _ _ _ _ _ _ _ _ _ _ _ _ _ _ _ _ _ _ _ _ _ _ _ _ _ _ _ _ _ _ _ _ _ _ _ _ _ _ _ _ _ _ _ _ _ _ _ _ _ _ _ _ _ _ _ _ _ _ _ _ _ _ _ _ _ _ _ _ _ _ _ _ _ _ _ _ _ _ _ _ _ _ _ _ _ _ _ _ _ _ _ _ _ _ _ _ _ _ _ _ _ _ _ _ _ _ _ _ _ _ _ _ _ _ _ _ _ _ _ _ _ _ _ _ _ _ _ ?_
              intro ib A w' c87 c88 c89 c90 c91 c92 c93 c94 c95 c96 c97 h1 h2 h3 h4
              dsimp only
              go_step
              go_meet
              exact ⟨ib, A, rfl, h1, h2, h3, h4⟩
              --C}
            case rest =>
              obtain ⟨ib, A, rfl, Hib, HIt, hib5, HB6⟩ := hcut
              obtain ⟨X3, hX3⟩ : ∃ X3, X3 = wc := ⟨_, rfl⟩
              subst hX3
              have hs6 := HB6.out.size
              have hs5r := HB5r.out.size
              have HB6r : Hid (Below wr.heap.size wr X3) := HB5r.out.trans (blessS HB6.out hs5r)
              have Hvb6 : Hid (X3.heap[vb]? = some (.cells (vk j).toArray 46 (0, 0))) := (HB6.out.block vb (lt_of_heap Hvb.out)).trans Hvb.out
              have Htk6 : Hid (X3.heap[tkb]? = some (.cells (tk j).toArray 44 (0, 0))) := (HB6.out.block tkb (lt_of_heap Htk5.out)).trans Htk5.out
              have hsw : s < wr.heap.size := lt_of_heap HQ.out.obj
              have Ho3 : Hid (X3.heap[s]? = some (stObj 1073741824 (sumZ (szOf ln yf) j : Nat) mv mk q 0)) := (HB6r.out.block s hsw).trans HQ.out.obj
              clear HB6 HB5r Hvb Htk5 Htb5
              obtain ⟨N, D, hmv, hN, hsz, hhas, hnot⟩ := HQ.out.val
              have hmv3 : X3.drew.ownsMap Yba.prog 46 R1 mv N D := ownsMap_heap hmv (HB6r.out.block _ (ownsMap_lt hmv))
              obtain ⟨X4, hup, hmv4, ht4⟩ := hmv3.store keyed46 Yba.underlying33 (by unfold maxLen; omega) (keyV (i := j) (by omega)) (val := .pointer (some ⟨ib, 0, none⟩)) (d := .nil) (ps := []) rfl
              have HK4 : Hid (Kept (fun k => k = mv) X3 X4) := Kept.turned ((Kept.refl (fun k => k = mv) X3).drew) ht4 (fun _ => rfl)
              have Hmv4 : Hid _ := hmv4
              have HD : Hid (N ≤ j ∧ Maps.size D = j ∧ (∀ k, k < j → Maps.has D (kV k) = true) ∧ (∀ k, j ≤ k → k < 1024 → Maps.has D (kV k) = false) ∧ IsMap D ∧ Tidy D) := ⟨hN, hsz, hhas, hnot, hmv.isMap, hmv.tidy keyed46⟩
              have hvs : mv ≠ s := ownsMap_ne hmv HQ.out.obj
              have hvtk : mv ≠ tkb := ownsMap_ne hmv3 Htk6.out
              have c2 : X3.drew.cell? ⟨s, 2, none⟩ = some (.map (some mv)) := st_cell (w := X3.drew) Ho3.out 2
              have l46 : (loadCells ⟨vb, 0, none⟩ 129).run Yba.prog X3.drew = .ok (vk j).toArray X3.drew := ld_all (w := X3.drew) Hvb6.out (vk_len j)
              have hvk := vk_len j
              have nvk := nonnil hvk
              clear hmv hmv3 hmv4 ht4 hN hsz hhas hnot Hvb6
              go_upto_region 21 with (fail)
              refine region_late (S := fun w' : World => w' = X3.drew) (late := fun i => i == 6) (by kernel_rfl) ?_
              refine anyLate_takeW (i := 0) (v := .pointer (some ⟨s, 0, none⟩)) rfl (by kernel_rfl) (by kernel_rfl) (by kernel_rfl) (fun _ _ _ h => h) (.inl ⟨by kernel_rfl, fun w _ => by go_simp⟩) ?_
              simp only [Act.put, List.setIfInBounds_toArray, List.set_cons_zero, List.set_cons_succ]
              refine anyLate_takeW (i := 1) (v := .pointer (some ⟨s, 0, none⟩)) rfl (by kernel_rfl) (by kernel_rfl) (by kernel_rfl) (fun _ _ _ h => h) (.inl ⟨by kernel_rfl, fun w _ => by go_simp⟩) ?_
              simp only [Act.put, List.setIfInBounds_toArray, List.set_cons_zero, List.set_cons_succ]
              refine anyLate_takeW (i := 2) (v := .pointer (some ⟨s, 2, none⟩)) rfl (by kernel_rfl) (by kernel_rfl) (by kernel_rfl) (fun _ _ _ h => h) (.inl ⟨by kernel_rfl, fun w _ => by go_simp⟩) ?_
              simp only [Act.put, List.setIfInBounds_toArray, List.set_cons_zero, List.set_cons_succ]
              refine anyLate_take (i := 3) (v := .map (some mv)) rfl (by kernel_rfl) (by kernel_rfl) (by kernel_rfl) (fun _ _ _ h => h) rfl (by kernel_rfl) (.inl ⟨by kernel_rfl, fun w hSw => by (subst hSw; go_simp)⟩) rfl ?_
              simp only [Act.put, List.setIfInBounds_toArray, List.set_cons_zero, List.set_cons_succ]
              refine anyLate_take (i := 4) (v := .agg (vk j).toArray) rfl (by kernel_rfl) (by kernel_rfl) (by kernel_rfl) (fun _ _ _ h => h) rfl (by kernel_rfl) (.inl ⟨by kernel_rfl, fun w hSw => by (subst hSw; go_simp)⟩) rfl ?_
              simp only [Act.put, List.setIfInBounds_toArray, List.set_cons_zero, List.set_cons_succ]
              refine anyLate_takeW (i := 5) (v := .pointer (some ⟨ib, 0, none⟩)) rfl (by kernel_rfl) (by kernel_rfl) (by kernel_rfl) (fun _ _ _ h => h) (.inl ⟨by kernel_rfl, fun w _ => by go_simp⟩) ?_
              simp only [Act.put, List.setIfInBounds_toArray, List.set_cons_zero, List.set_cons_succ]
              refine anyLate_ready (rs := [6]) (by kernel_rfl) (by simp) ?_
              refine AllLate.cons rfl (fun K' hK' => ?_) AllLate.nil
              go_simp
              refine hK'.out _ _ (fun h => by simp at h) ?_
              clear hK' hup c2 l46 hvk nvk
              refine anyLate_done (by kernel_rfl) ?_ _
              have hs34 := HK4.out.size
              have hs6r := HB6r.out.size
              have Ho4 : Hid (X4.heap[s]? = some (stObj 1073741824 (sumZ (szOf ln yf) j : Nat) mv mk q 0)) := (HK4.out.block s (by omega) (fun e => hvs e.symm)).trans Ho3.out
              have Htk4 : Hid (X4.heap[tkb]? = some (.cells (tk j).toArray 44 (0, 0))) := (HK4.out.block tkb (lt_of_heap Htk6.out) (fun e => hvtk e.symm)).trans Htk6.out
              clear Ho3 Htk6
              obtain ⟨N', D', hmk, hN', hat⟩ := HQ.out.byk
              have hks : mk ≠ s := ownsMap_ne hmk HQ.out.obj
              have hmk3 : X3.ownsMap Yba.prog 44 R2 mk N' D' := ownsMap_heap hmk (HB6r.out.block _ (ownsMap_lt hmk))
              have hmk4 : X4.ownsMap Yba.prog 44 R2 mk N' D' := ownsMap_heap hmk3 (HK4.out.block _ (ownsMap_lt hmk3) (fun e => hmm e.symm))
              have hmk4l := ownsMap_lt hmk4
              obtain ⟨X5, hX5⟩ : ∃ X5, X5 = (X4.alloc (.cells #[.pointer (some ⟨ib, 0, none⟩)] 47 (0, 0))).drew := ⟨_, rfl⟩
              have hB5x : Below X4.heap.size X4 X5 := by rw [hX5]; exact ((Below.refl _ X4).alloc (Nat.le_refl _) _).drew
              have hmk5 : X5.ownsMap Yba.prog 44 R2 mk N' D' := ownsMap_heap hmk4 (hB5x.block _ hmk4l)
              obtain ⟨sb, hsb⟩ : ∃ sb, sb = X4.heap.size := ⟨_, rfl⟩
              have Hsb5 : Hid (X5.heap[sb]? = some (.cells #[.pointer (some ⟨ib, 0, none⟩)] 47 (0, 0))) := by
                show X5.heap[sb]? = _
                rw [hX5, hsb]; exact (MapKept.heap_alloc X4 _).1
              obtain ⟨X6, hup6, hmk6, ht6⟩ := hmk5.store keyed44 Yba.underlying34 (by unfold maxLen; omega) (keyT (i := j) (by omega)) (val := .slice (some ⟨sb, 0, none⟩) 1 1) (d := .lit (.int .u64 (sb : Nat))) (ps := []) (R2_slice sb)
              have HK6 : Hid (Kept (fun k => k = mk) X5 X6) := Kept.turned (Kept.refl (fun k => k = mk) X5) ht6 (fun _ => rfl)
              have HB5x : Hid (Below X4.heap.size X4 X5) := hB5x
              have Hmk6 : Hid _ := hmk6
              have HD' : Hid (N' ≤ j ∧ (∀ (k : Nat) (r : Rec), its[k]? = some r → ∀ z, D'.atKey (kT k) z = .lit (.int .u64 (r.sl : Nat))) ∧ IsMap D') := ⟨hN', hat, hmk.isMap⟩
              have hktk : mk ≠ tkb := ownsMap_ne hmk4 Htk4.out
              have HSB : Hid (∀ w' : World, Below X4.heap.size X4 w' → w'.cell? ⟨s, 3, none⟩ = some (.map (some mk)) ∧ (loadCells ⟨tkb, 0, none⟩ 65).run Yba.prog w' = .ok (tk j).toArray w') := fun w' h => ⟨st_cell ((h.block s (lt_of_heap Ho4.out)).trans Ho4.out) 3, ld_all ((h.block tkb (lt_of_heap Htk4.out)).trans Htk4.out) (tk_len j)⟩
              have HSn : (fun w' : World => w'.cell? ⟨s, 3, none⟩ = some (.map (some mk)) ∧ (loadCells ⟨tkb, 0, none⟩ 65).run Yba.prog w' = .ok (tk j).toArray w') X4.drew := HSB.out _ (Below.refl _ _).drew
              rw [hX5, hsb] at hup6
              have HX5 : Hid _ := hX5
              have Hsbe : Hid (sb = X4.heap.size) := hsb
              clear hmk hmk3 hmk4 hmk5 hmk6 ht6 hN' hat hB5x hX5 hsb
              go_upto_region 22 with (fail)
              refine region_late (S := fun w' : World => w'.cell? ⟨s, 3, none⟩ = some (.map (some mk)) ∧ (loadCells ⟨tkb, 0, none⟩ 65).run Yba.prog w' = .ok (tk j).toArray w') (late := fun i => i == 7) (by kernel_rfl) ?_
              refine anyLate_takeW (i := 0) (v := .pointer (some ⟨s, 0, none⟩)) rfl (by kernel_rfl) (by kernel_rfl) (by kernel_rfl) (fun _ _ _ h => h) (.inl ⟨by kernel_rfl, fun w _ => by go_simp⟩) ?_
              simp only [Act.put, List.setIfInBounds_toArray, List.set_cons_zero, List.set_cons_succ]
              refine anyLate_takeW (i := 1) (v := .pointer (some ⟨s, 0, none⟩)) rfl (by kernel_rfl) (by kernel_rfl) (by kernel_rfl) (fun _ _ _ h => h) (.inl ⟨by kernel_rfl, fun w _ => by go_simp⟩) ?_
              simp only [Act.put, List.setIfInBounds_toArray, List.set_cons_zero, List.set_cons_succ]
              refine anyLate_takeW (i := 2) (v := .pointer (some ⟨s, 3, none⟩)) rfl (by kernel_rfl) (by kernel_rfl) (by kernel_rfl) (fun _ _ _ h => h) (.inl ⟨by kernel_rfl, fun w _ => by go_simp⟩) ?_
              simp only [Act.put, List.setIfInBounds_toArray, List.set_cons_zero, List.set_cons_succ]
              refine anyLate_take (i := 3) (v := .map (some mk)) rfl (by kernel_rfl) (by kernel_rfl) (by kernel_rfl) (fun _ _ _ h => h) rfl (by kernel_rfl) (.inl ⟨by kernel_rfl, fun w hSw => by (obtain ⟨s1, s2⟩ := hSw; go_simp)⟩) HSn ?_
              simp only [Act.put, List.setIfInBounds_toArray, List.set_cons_zero, List.set_cons_succ]
              refine anyLate_take (i := 4) (v := .agg (tk j).toArray) rfl (by kernel_rfl) (by kernel_rfl) (by kernel_rfl) (fun _ _ _ h => h) rfl (by kernel_rfl) (.inl ⟨by kernel_rfl, fun w hSw => by (obtain ⟨s1, s2⟩ := hSw; go_simp)⟩) HSn ?_
              simp only [Act.put, List.setIfInBounds_toArray, List.set_cons_zero, List.set_cons_succ]
              refine anyLate_takeW (i := 5) (v := .pointer (some ⟨ib, 0, none⟩)) rfl (by kernel_rfl) (by kernel_rfl) (by kernel_rfl) (fun _ _ _ h => h) (.inl ⟨by kernel_rfl, fun w _ => by go_simp⟩) ?_
              simp only [Act.put, List.setIfInBounds_toArray, List.set_cons_zero, List.set_cons_succ]
              refine anyLate_ready (rs := [6]) (by kernel_rfl) (by simp) ?_
              refine AllLate.cons rfl (fun K' hK' => ?_) AllLate.nil
              go_simp
              refine hK'.out _ _ (fun _ _ => HSB.out _ ((Below.refl _ X4).drew.alloc (Nat.le_refl _) _)) ?_
              clear hK'
              try simp only [Act.put, List.setIfInBounds_toArray, List.set_cons_zero, List.set_cons_succ]
              refine anyLate_ready (rs := [7]) (by kernel_rfl) (by simp) ?_
              refine AllLate.cons rfl (fun K' hK' => ?_) AllLate.nil
              go_simp
              refine hK'.out _ _ (fun h => by simp at h) ?_
              clear hK' hup6 HSn HSB
              refine anyLate_done (by kernel_rfl) ?_ _
              --D{
              have hs56 := HK6.out.size
              have hs45x := HB5x.out.size
              have hsbl : sb < X5.heap.size := lt_of_heap Hsb5.out
              have hsx4 : s < X4.heap.size := lt_of_heap Ho4.out
              have Ho6 : Hid (X6.heap[s]? = some (stObj 1073741824 (sumZ (szOf ln yf) j : Nat) mv mk q 0)) := ((HK6.out.block s (by omega) (fun e => hks e.symm)).trans (HB5x.out.block s hsx4)).trans Ho4.out
              have qb : Hid (∀ g, q.ownBlock = some g → g < wr.heap.size ∧ g ≠ mv ∧ g ≠ mk) := fun g hg => by
                obtain ⟨_, cur, hc⟩ := ownsRow_block HQ.out.row hg
                obtain ⟨_, _, hm1, _⟩ := HQ.out.val
                obtain ⟨_, _, hm2, _⟩ := HQ.out.byk
                exact ⟨lt_of_heap hc, fun e => ownsMap_ne hm1 hc e.symm, fun e => ownsMap_ne hm2 hc e.symm⟩
              have Hqsb0 : Hid (q.ownBlock ≠ some sb) := fun e => by have := (qb.out sb e).1; have := Hsbe.out; omega
              have Hrow6 : Hid (X6.ownsRow w.heap.size 47 1 q its.length (its.map fun r => .pointer (some ⟨r.b, 0, none⟩))) := by
                refine ownsRow_move HQ.out.row (fun g hg => ?_)
                obtain ⟨h1, h2, h3⟩ := qb.out g hg
                rw [HK6.out.block g (by omega) h3, HB5x.out.block g (by omega), HK4.out.block g (by omega) h2, HB6r.out.block g h1]
              have hil := HQ.out.len
              obtain ⟨base, hbase⟩ : ∃ base, base = if j = 0 then X6.heap.size + 1 else w.heap.size := ⟨_, rfl⟩
              have hsW := HQ.out.below.size
              have hb1 : base ≤ X6.heap.size + 1 := by rw [hbase]; split <;> omega
              have hb2 : w.heap.size ≤ base := by rw [hbase]; split <;> omega
              have Hrowb : Hid (X6.ownsRow base 47 1 q its.length (its.map fun r => .pointer (some ⟨r.b, 0, none⟩))) := by
                by_cases h0 : j = 0
                · have h1 : its = [] := List.length_eq_zero_iff.1 (by omega)
                  subst h1
                  exact ⟨by simp, .inl ⟨HQ.out.nil h0, rfl⟩⟩
                · have : base = w.heap.size := by rw [hbase, if_neg h0]
                  rw [this]; exact Hrow6.out
              have Hbase : Hid (base = if j = 0 then X6.heap.size + 1 else w.heap.size) := hbase
              have c4 : X6.cell? ⟨s, 4, none⟩ = some q := st_cell Ho6.out 4
              obtain ⟨ti, ti1, ti2, ti3, ti4⟩ := info47
              clear hbase HX5 Ho4 Htk4
              go_wp2_with (at_builtin; refine wpList_append_own _ rfl _ _ 36 rfl base 47 ti (.pointer none) 1 8 Yba.underlying36 ti1 ti2 ti3 ti4 rfl (by omega) q its.length (its.map fun r => .pointer (some ⟨r.b, 0, none⟩)) rfl ?qrow ⟨X6.heap.size, 0, none⟩ 1 1 [.pointer (some ⟨ib, 0, none⟩)] rfl ?qc1 ?qc2 ?qc3 ?qc4 ?qc5 ?qc6 ?_)
              case qrow =>
                exact ownsRow_move Hrowb.out (fun g hg => Below.heap_alloc _ _ _ (lt_of_heap (ownsRow_block Hrowb.out hg).2.choose_spec))
              case qc1 => rfl
              case qc2 =>
                intro k u hu
                have hk : k = 0 := by
                  cases k with
                  | zero => rfl
                  | succ k => simp at hu
                subst hk
                have hu' : .pointer (some ⟨ib, 0, none⟩) = u := by simpa using hu
                rw [← hu', show (⟨X6.heap.size, 0, none⟩ : Addr).add 0 = ⟨X6.heap.size, 0, none⟩ from rfl, cell_of_row _ _ 0 _ 47 (0, 0) (MapKept.heap_alloc X6 _).1]; rfl
              case qc3 =>
                intro u hu
                rw [List.mem_singleton.1 hu]; rfl
              case qc4 => unfold maxLen; omega
              case qc5 => omega
              case qc6 => simp; omega
              intro q' X7 hrow7 hgrow hnil
              have HK7 : Hid (Kept (fun k => q.ownBlock = some k) X6 X7) := Kept.grown ((Kept.refl _ X6).alloc _) hgrow (fun k e _ => e)
              have hqs : q.ownBlock ≠ some s := fun e => blk_ne (ownsRow_block Hrow6.out e).2.choose_spec Ho6.out (by decide) rfl
              have ho7 : X7.heap[s]? = some (stObj 1073741824 (sumZ (szOf ln yf) j : Nat) mv mk q 0) := (HK7.out.block s (by omega) hqs).trans Ho6.out
              have c7 : X7.cell? ⟨s, 4, none⟩ = some q := st_cell ho7 4
              have f7 : X7.frozen? ⟨s, 4, none⟩ = false := st_frozen ho7 4
              have Hsb7 : Hid (X7.heap[sb]? = some (.cells #[.pointer (some ⟨ib, 0, none⟩)] 47 (0, 0))) := by
                have h1 := Hsbe.out
                show X7.heap[sb]? = _
                rw [HK7.out.block sb (by omega) Hqsb0.out, HK6.out.block sb hsbl (by omega)]; exact Hsb5.out
              obtain ⟨gq, capq, hq', hqsb⟩ : ∃ gq capq, q' = .slice (some ⟨gq, 0, none⟩) (j + 1 : Nat) capq ∧ q'.ownBlock ≠ some sb := by
                obtain ⟨_, ⟨_, h⟩ | ⟨g, c, cur, h, h1, h2, h3, h4, h5, h6⟩⟩ := hrow7
                · simp at h
                · refine ⟨g, c, h, ?_⟩
                  rw [h]
                  intro e
                  have e' : g = sb := by simpa [Value.ownBlock] using e
                  by_cases h0 : j = 0
                  · have := Hbase.out
                    rw [if_pos h0] at this
                    omega
                  · rw [e', Hsb7.out] at h2
                    injection h2 with h2
                    injection h2 with h2
                    rw [← h2] at h5
                    simp at h5
                    omega
              have hrow8 : X7.ownsRow w.heap.size 47 1 q' (its.length + 1) ((its.map fun r => .pointer (some ⟨r.b, 0, none⟩)) ++ [.pointer (some ⟨ib, 0, none⟩)]) := by
                obtain ⟨h0, h | ⟨g, c, cur, h, h1, h2⟩⟩ := hrow7
                all_goals rw [hil]
                · exact ⟨h0, .inl h⟩
                · exact ⟨h0, .inr ⟨g, c, cur, h, Nat.le_trans hb2 h1, h2⟩⟩
              have Hqsb : Hid (q'.ownBlock ≠ some sb) := hqsb
              have Hrow8 : Hid _ := hrow8
              have Hq' : Hid (q' = .slice (some ⟨gq, 0, none⟩) (j + 1 : Nat) capq) := hq'
              have hns := sumZ_le (szOf_lt ln yf) j
              have Hsz : Hid (sumZ (szOf ln yf) (j + 1) = sumZ (szOf ln yf) j + zj) := by
                show sumZ (szOf ln yf) (j + 1) = sumZ (szOf ln yf) j + zj
                rw [sumZ, ← Hzj.out]
              have HA : Hid (ItS A j d (szOf ln yf j)) := by
                show ItS A j d (szOf ln yf j)
                rw [← Hzj.out]; exact HIt.out
              have HN : Hid (BldS w s mv mk vs (szOf ln yf) ((X7.setCell ⟨s, 4, none⟩ q').setCell ⟨s, 1, none⟩ (.int .i64 ((sumZ (szOf ln yf) j : Int) + zj))) (j + 1) (its ++ [⟨ib, sb, d, szOf ln yf j, A⟩]) q') := by
                refine HQ.out.step (by omega) Hz.out hmv0 hmk0 hs0 hmm HB6r.out (by omega) Hib.out HA.out HK4.out Hmv4.out HD.out HB5x.out (by have := Hsbe.out; omega) Hsb5.out HK6.out Hmk6.out HD'.out HK7.out Hrow8.out Hqsb.out ?_
                rw [Hsz.out, Int.natCast_add]
              clear hgrow hrow7 hnil c4 hqsb hrow8 Hrow6 Hrowb HK4 HK6 HK7 HB5x Hsb5 Hsb7 Hmv4 Hmk6 HD HD' qb
              rw [hq'] at HN ⊢
              have ho8 : (X7.setCell ⟨s, 4, none⟩ (.slice (some ⟨gq, 0, none⟩) (j + 1 : Nat) capq)).heap[s]? = some (stObj 1073741824 (sumZ (szOf ln yf) j : Nat) mv mk (.slice (some ⟨gq, 0, none⟩) (j + 1 : Nat) capq) 0) := heap_setCell_same X7 s 4 _ 38 _ ho7
              have st4 := sc1 (v := .slice (some ⟨gq, 0, none⟩) (j + 1 : Nat) capq) c7 f7 rfl
              clear hq' ho7
              go_upto_region 24 with (fail)
              generalize X7.setCell ⟨s, 4, none⟩ (.slice (some ⟨gq, 0, none⟩) (j + 1 : Nat) capq) = X8 at HN ho8 ⊢
              have c1 : X8.cell? ⟨s, 1, none⟩ = some (.int .i64 (sumZ (szOf ln yf) j : Nat)) := st_cell ho8 1
              have f1 : X8.frozen? ⟨s, 1, none⟩ = false := st_frozen ho8 1
              clear ho8 c7 f7 st4
              generalize sumZ (szOf ln yf) j = sj at HN c1 hns
              have st1 := sc1 (v := .int .i64 ((sj : Int) + zj)) c1 f1 rfl
              go_upto_region 25 with (fail)
              generalize X8.setCell ⟨s, 1, none⟩ (.int .i64 ((sj : Int) + zj)) = W' at HN ⊢
              clear c1 f1 st1
              have hcl := cntZ_le vs t j
              have hbl := bytZ_le (zs := vs) (t := t) (szOf_lt ln yf) j
              by_cases hdt : t < d
              · have hdt' : (t : Int) < (d : Int) := by omega
                have HC : Hid (cntZ vs t (j + 1) = cntZ vs t j + 1) := by
                  show cntZ vs t (j + 1) = cntZ vs t j + 1
                  rw [cntZ, List.getD_eq_getElem?_getD, Hz.out, if_pos (by simpa using hdt)]
                have HC2 : Hid (bytZ vs (szOf ln yf) t (j + 1) = bytZ vs (szOf ln yf) t j + zj) := by
                  show bytZ vs (szOf ln yf) t (j + 1) = bytZ vs (szOf ln yf) t j + zj
                  rw [bytZ, List.getD_eq_getElem?_getD, Hz.out, if_pos (by simpa using hdt), ← Hzj.out]
                go_wp2
                go_roundw
                case rel => exact ⟨j + 1, _, _, by simp, by omega, by rw [HC.out]; simp, by rw [HC2.out]; simp, HN⟩
                case measure => simp [intOf]; omega
              · have hdt' : ¬ (t : Int) < (d : Int) := by omega
                have HC : Hid (cntZ vs t (j + 1) = cntZ vs t j) := by
                  show cntZ vs t (j + 1) = cntZ vs t j
                  rw [cntZ, List.getD_eq_getElem?_getD, Hz.out, if_neg (by simpa using hdt)]; rfl
                have HC2 : Hid (bytZ vs (szOf ln yf) t (j + 1) = bytZ vs (szOf ln yf) t j) := by
                  show bytZ vs (szOf ln yf) t (j + 1) = bytZ vs (szOf ln yf) t j
                  rw [bytZ, List.getD_eq_getElem?_getD, Hz.out, if_neg (by simpa using hdt)]; rfl
                go_wp2
                go_roundw
                case rel => exact ⟨j + 1, _, _, by simp, by omega, by rw [HC.out], by rw [HC2.out], HN⟩
                case measure => simp [intOf]; omega
              --D}
      · have hje : n = j := by omega
        subst hje
        go_wp2
        go_meet
        exact ⟨its, q, rfl, rfl, HQ⟩
  case rest =>
    obtain ⟨its, q, rfl, rfl, HQ⟩ := hcut
    go_step
    obtain ⟨bk, cap, hSt, hSO, hc1, hc2, hc3⟩ := HQ.out.st hn Hvr.out Hvs.out (szOf_lt ln yf) hmv0 hmk0 hs0 hmm t
    have hbl := HQ.out.below
    have hgz : 0 < m → gz < w.heap.size := fun h0 => by
      obtain ⟨C, hC, _⟩ := (Hzq.out h0).2
      exact lt_of_heap hC
    exact aseg29 _ _ _ _ _ _ W wc B tb0 s bk mv mk cap n m capz gz t (cntZ vs t n) (bytZ vs (szOf ln yf) t n) qz zs 1073741824 _ dr iv (HBW.out.trans (blessS hbl hBs)) (Nat.le_trans hBs hbl.size) hSt (by rw [hc3]) hn hm ht ((hbl.block tb0 (lt_of_heap Htb.out)).trans Htb.out) hc1 hc2 (fun k hk => Nat.le_trans hBs (hSO k hk)) Hzl.out (fun h0 => ⟨(Hzq.out h0).1, (Hzq.out h0).2.move (hbl.block gz (hgz h0))⟩) Hzr.out Hzs.out _ _ _ _ _ _ _ _ _ _ _ _ _ _ _ _ _ _ _ _ _ _ _ _ _ _ _ _ _ _ _ _ _ _ _ _ _ _ _ _ _ _ _ _ _ _ _ _ _ _ _ _ _ _ _ _ _ _ _ _ _ _ _ _ _ _ _ _ _ _ _ _ _ _ _ _ _ _ _ _ _ _ _ _ _ _ _ _ _ _ _ _ _ _ _ _ _ _ _ _ _ _ _ _ _ _ _ _ _ _ _ _ _ _ _ _ _ _ _ _ _ _ _ _ _ _ _ _ _ _ _ _ _ _ _ _ _ _ _ _ _ _ _ _ _ _ _ _ _ _ _ _ _ _ _ _ _ _ _ _ _ _ _ _ _ _ _ _ _ _ _ _ _ _ _ _ _ _ _ _ _ _ _ _ _ _ _ _ _ _ _ _ _ _ _ _ _ _ _ _ _ _ _ _ _ _ _ _ _ _ _ _ _ _ _ _ _ _ _ _ _ _ _ _ _ _ _
end Go.Proofs.Ybulkamjs
