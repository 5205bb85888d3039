/- The walk of LawS1903BRelease. -/
import Derived.Test.YbulkamjsNew
import Derived.Test.YbulkamjsBid
namespace Go.Proofs.Ybulkamjs
open Go.RowKit Go.Maps Go.WideMaps
attribute [-simp] Yba.zeroValue40 Yba.typeInfo40
attribute [-go_sem] loadCells
attribute [local simp] zero40

theorem eq_id0 (w : World) : (Op.equalIn 10000 40 (.agg (idk 0).toArray) (.agg (idk 0).toArray)).run Yba.prog w = .ok true w := by kernel_rfl
theorem eq_id1 (w : World) : (Op.equalIn 10000 40 (.agg (idk 1).toArray) (.agg (idk 1).toArray)).run Yba.prog w = .ok true w := by kernel_rfl
theorem eq_id2 (w : World) : (Op.equalIn 10000 40 (.agg (idk 2).toArray) (.agg (idk 2).toArray)).run Yba.prog w = .ok true w := by kernel_rfl
theorem eq_id3 (w : World) : (Op.equalIn 10000 40 (.agg (idk 3).toArray) (.agg (idk 3).toArray)).run Yba.prog w = .ok true w := by kernel_rfl
theorem eq_zid (w : World) : (Op.equalIn 10000 40 (.agg zid.toArray) (.agg zid.toArray)).run Yba.prog w = .ok true w := by kernel_rfl
theorem eq_idk (k : Nat) (hk : k < 4) (w : World) : (Op.equalIn 10000 40 (.agg (idk k).toArray) (.agg (idk k).toArray)).run Yba.prog w = .ok true w := by
  have : k = 0 ∨ k = 1 ∨ k = 2 ∨ k = 3 := by omega
  rcases this with e | e | e | e <;> subst e
  · exact eq_id0 w
  · exact eq_id1 w
  · exact eq_id2 w
  · exact eq_id3 w

/-- The law's own counters. -/
def Cnt (w : World) (c : Nat) (cnt : Nat → Nat) : Prop := ∃ C : Array Value, w.heap[c]? = some (.cells C 103 (0, 0)) ∧ C.size = 4 ∧ ∀ j, j < 4 → C[j]? = some (.int .u32 (cnt j))
theorem Cnt.cell {w : World} {c : Nat} {cnt : Nat → Nat} (h : Cnt w c cnt) {j : Nat} (hj : j < 4) : w.cell? ⟨c, j, none⟩ = some (.int .u32 (cnt j)) := by
  obtain ⟨C, h1, _, h2⟩ := h
  rw [cell_of_row w c j _ 103 (0, 0) h1]; exact h2 j hj
theorem Cnt.froz {w : World} {c : Nat} {cnt : Nat → Nat} (h : Cnt w c cnt) (j : Nat) : w.frozen? ⟨c, j, none⟩ = false := by
  obtain ⟨C, h1, _, h2⟩ := h
  simp [World.frozen?, h1]
theorem Cnt.keep {w w' : World} {c : Nat} {cnt : Nat → Nat} (h : Cnt w c cnt) (hs : w'.heap[c]? = w.heap[c]?) : Cnt w' c cnt := by
  obtain ⟨C, h1, h2⟩ := h
  exact ⟨C, hs.trans h1, h2⟩
theorem Cnt.lt {w : World} {c : Nat} {cnt : Nat → Nat} (h : Cnt w c cnt) : c < w.heap.size := by
  obtain ⟨C, h1, _⟩ := h; exact lt_of_heap h1
theorem Cnt.set {w : World} {c : Nat} {cnt : Nat → Nat} (h : Cnt w c cnt) {k : Nat} (v : Nat) : Cnt (w.setCell ⟨c, k, none⟩ (.int .u32 (v : Nat))) c (upd cnt k v) := by
  obtain ⟨C, h1, h2, h3⟩ := h
  refine ⟨C.setIfInBounds k (.int .u32 (v : Nat)), heap_setCell_same w c k C 103 _ h1, by simpa using h2, fun j hj => ?_⟩
  rw [Array.getElem?_setIfInBounds]
  by_cases e : k = j
  · subst e; rw [if_pos rfl, if_pos (by omega), upd_same]
  · rw [if_neg e, upd_ne _ _ (fun e' => e e'.symm)]; exact h3 j hj

theorem cell_lt {w : World} {a : Addr} {v : Value} (h : w.cell? a = some v) : a.block < w.heap.size := by
  rcases Nat.lt_or_ge a.block w.heap.size with h' | h'
  · exact h'
  · simp [World.cell?, Array.getElem?_eq_none h'] at h

/-- Of the first p ids: how many are held. -/
def liveTo (cn : Nat → Nat) : Nat → Nat
  | 0 => 0
  | p + 1 => liveTo cn p + if 0 < cn p then 1 else 0
theorem liveTo_le (cn : Nat → Nat) : ∀ p, liveTo cn p ≤ p
  | 0 => Nat.le_refl _
  | p + 1 => by have := liveTo_le cn p; rw [liveTo]; split <;> omega
theorem live_to (cn : Nat → Nat) : live cn = liveTo cn 4 := by simp [live, liveTo]

theorem putA_all {X : List Value} (C : Array Value) (h : C.size = X.length) : putA C 0 X = X.toArray := by
  apply Array.ext_getElem?
  intro j
  rw [get_putA _ _ _ _ (by omega)]
  by_cases hj : j < X.length
  · rw [if_pos (by omega)]; simp
  · rw [if_neg (by omega), Array.getElem?_eq_none (by omega), Array.getElem?_eq_none (by simpa using hj)]

set_option maxRecDepth 20000 in
set_option maxHeartbeats 4000000 in
theorem release_walk (a : Addr) (len cap : Nat) (zs : List Int) (w : World) (hl : len ≤ cap) (hz : zs.length = cap)
    (hc : ∀ i, i < zs.length → w.cell? (a.add i) = some (.int .u8 (zs.getD i 0))) (hw : ∀ n ∈ zs, (Lit.int .u8 n).wf = true) (h1024 : len ≤ 1024) :
    Calls Yba.prog 4 #[.slice (some a) len cap] w fun e w' => e = .returned (.bool true) ∧ Below w.heap.size w w' := by
  obtain ⟨kl, hkl⟩ := ex_kl
  have Hkl : Hid (IsKl kl) := hkl
  have Hc : Hid (∀ i, i < zs.length → w.cell? (a.add i) = some (.int .u8 (zs.getD i 0))) := hc
  have Hw : Hid (∀ n ∈ zs, (Lit.int .u8 n).wf = true) := hw
  clear hkl hc hw
  have hgt : ¬ (1024 : Int) < (len : Int) := by omega
  go_enter Yba.func4, Yba.ntmps4
  go_wp2_with (go_at_call 15; refine (new_dir _).mono ?_; rintro e w' ⟨rfl, rfl⟩)
  generalize hW0 : ((w.alloc (.map #[] 0)).alloc (dirObj 0 (.slice none 0 0) (.slice none 0 0) w.heap.size (.slice none 0 0))).alloc _ = W0
  have HD0 : Hid (Dir (fun x => x < w.heap.size ∨ x = w.heap.size + 1 + 1) w.heap.size (w.heap.size + 1) kl 0 (fun _ => 0) (fun _ => 0) [] W0) := by
    rw [← hW0]
    refine (new_start kl w).keep (fun k hk _ => Below.heap_alloc _ _ _ hk) (fun k hk e => ?_)
    simp at hk
    omega
  have HC0 : Hid (Cnt W0 (w.heap.size + 1 + 1) (fun _ => 0)) := by
    rw [← hW0]
    refine ⟨_, by simpa using (MapKept.heap_alloc ((w.alloc (.map #[] 0)).alloc (dirObj 0 (.slice none 0 0) (.slice none 0 0) w.heap.size (.slice none 0 0))) _).1, rfl, fun j hj => ?_⟩
    have : j = 0 ∨ j = 1 ∨ j = 2 ∨ j = 3 := by omega
    rcases this with e | e | e | e <;> subst e <;> rfl
  have HB0 : Hid (Below w.heap.size w W0) := by
    rw [← hW0]
    exact (((Below.refl w.heap.size w).alloc (Nat.le_refl _) _).alloc (by simp) _).alloc (by simp; omega) _
  clear hW0
  go_loopw [25] (fun i wr => ∃ (j : Nat) (cnt sl : Nat → Nat) (fr : List Nat), i = .int .i64 j ∧ j ≤ len ∧ Hid (Dir (fun x => x < w.heap.size ∨ x = w.heap.size + 1 + 1) w.heap.size (w.heap.size + 1) kl j cnt sl fr wr) ∧
      Hid (Cnt wr (w.heap.size + 1 + 1) cnt) ∧ Hid (Below w.heap.size w wr)) (fun i _ => len - (intOf i).toNat)
  case atStart => exact ⟨0, fun _ => 0, fun _ => 0, [], rfl, by omega, HD0, HC0, HB0⟩
  case round =>
    obtain ⟨j, cnt, sl, fr, rfl, hj, HD, HC, HB⟩ := hrel
    by_cases hlt : j < len
    · have j1 : (j : Int) < (len : Int) := by omega
      have blk : (a.add j).block = a.block := by unfold Addr.add; split <;> rfl
      have hba : a.block < w.heap.size := by
        rw [← blk]
        exact cell_lt (Hc.out j (by omega))
      have ho := HB.out.cell (p := a.add j) (by rw [blk]; exact hba)
      rw [Hc.out j (by omega)] at ho
      have hz0 := Hw.out (zs.getD j 0) (by rw [List.getD_eq_getElem?_getD, List.getElem?_eq_getElem (by omega)]; exact List.getElem_mem _)
      generalize zs.getD j 0 = z at ho hz0
      have hz1 : 0 ≤ z ∧ z < 256 := by
        simp [Lit.wf, IntKind.min, IntKind.max, IntKind.bits, IntKind.signed] at hz0; omega
      obtain ⟨k, hk4, hk⟩ : ∃ k : Nat, z.tmod 4 = (k : Int) ∧ k < 4 := ⟨(z.tmod 4).toNat, by rw [Int.tmod_eq_emod_of_nonneg hz1.1]; omega, by rw [Int.tmod_eq_emod_of_nonneg hz1.1]; omega⟩
      have hq : z.tdiv 4 % 2 = 0 ∨ z.tdiv 4 % 2 = 1 := by omega
      clear hz0 hz1
      have Hq : Hid _ := hq
      clear hq
      go_wp2_with (fail)
      refine Calls.mono (bid_any k wr (by omega)) ?_
      rintro e w1 ⟨rfl, hB1⟩
      have hlen := idk_len k
      have hb1 : (w1.alloc (.cells zid.toArray 40 (0, 0))).heap[w1.heap.size]? = some (.cells zid.toArray 40 (0, 0)) := (MapKept.heap_alloc _ _).1
      have hst : (storeCells ⟨w1.heap.size, 0, none⟩ (idk k)).run Yba.prog (w1.alloc (.cells zid.toArray 40 (0, 0))) = .ok () ((w1.alloc (.cells zid.toArray 40 (0, 0))).setCells w1.heap.size 0 (idk k)) :=
        sc40 (there_block hb1 0 64 (by simp [zid_len])) hlen (idk_all k)
      generalize hX : idk k = X at hlen hst ⊢
      generalize hw2 : (w1.alloc (.cells zid.toArray 40 (0, 0))).setCells w1.heap.size 0 X = w2 at hst ⊢
      clear hb1
      have Hw2 : Hid _ := hw2
      have HX : Hid _ := hX
      clear hw2 hX
      have hK1 : Kept (fun _ => False) wr w1 := ⟨hB1.os, hB1.tape, hB1.output, hB1.size, fun b hb _ => hB1.block b hb⟩
      have hK2 : Kept (fun _ => False) wr w2 := by
        rw [← Hw2.out]
        exact Kept.setCells w1.heap.size (fun h => by have := hB1.size; omega) _ _ _ (hK1.alloc _)
      have hltb : w1.heap.size < w2.heap.size := by rw [← Hw2.out, size_setCells]; simp
      have hN2 : w2.heap[w1.heap.size]? = some (.cells X.toArray 40 (0, 0)) := by
        rw [← Hw2.out, heap_putA X 0 _ _ (MapKept.heap_alloc _ _).1, putA_all _ (by simp [zid_len, hlen])]
      have HN2 : Hid _ := hN2
      have hsz1 := hB1.size
      have hBw := HB.out.size
      have HDb : Hid (Dir (fun x => (x < w.heap.size ∨ x = w.heap.size + 1 + 1) ∨ x = w1.heap.size) w.heap.size (w.heap.size + 1) kl j cnt sl fr w2) :=
        HD.out.keep (fun b hb _ => hK2.block b hb (fun h => h)) (fun b hb e => e.elim id (fun e => by omega))
      have HC2 : Hid (Cnt w2 (w.heap.size + 1 + 1) cnt) := HC.out.keep (hK2.block _ HC.out.lt (fun h => h))
      have HB2 : Hid (Below w.heap.size w w2) := HB.out.trans (hK2.below (fun _ h => h.elim) hBw)
      have hcb : w.heap.size + 1 + 1 ≠ w1.heap.size := by have := HC.out.lt; omega
      have hcl := HC.out.lt
      clear hK1 hK2 hN2 hB1
      have ht5 : j < 5000 := by omega
      have hav2 : ∀ x, ((x < w.heap.size ∨ x = w.heap.size + 1 + 1) ∨ x = w1.heap.size) → x < w2.heap.size := fun x hx => by omega
      have Hhold : Hid _ := hold_dir Hkl.out HDb.out hav2 (by omega) hk ht5
      rw [HX.out] at Hhold
      clear hav2
      have hl2 : (loadCells ⟨w1.heap.size, 0, none⟩ 64).run Yba.prog w2 = .ok X.toArray w2 := lc40_block HN2.out hlen
      have ck := HC2.out.cell hk
      have hk' : (k : Int) < 4 := by omega
      rcases Hq.out with hq | hq
      · have hq' : Hid _ := hq
        go_wp2_with (fail)
        refine Calls.mono Hhold.out ?_
        rintro e w3 ⟨sl', fr', rfl, hD3, hK3⟩
        clear ck hl2 Hhold
        have HD3 : Hid _ := hD3
        have HK3 : Hid _ := hK3
        have hsz3 := hK3.size
        have HC3 : Hid (Cnt w3 (w.heap.size + 1 + 1) cnt) := HC2.out.keep (hK3.block _ HC2.out.lt (fun h => h (.inl (.inr rfl))))
        have HN3 : Hid (w3.heap[w1.heap.size]? = some (.cells X.toArray 40 (0, 0))) := (hK3.block _ (by omega) (fun h => h (.inr rfl))).trans HN2.out
        clear hD3 hK3
        have ck := HC3.out.cell hk
        have cf := HC3.out.froz k
        have hct : cnt k ≤ j := by
          obtain ⟨_, _, _, _, _, _, _, _, _, hh⟩ := HD.out
          exact hh.bc k
        have wc : IntKind.u32.wrap ((cnt k : Int) + 1) = (cnt k : Int) + 1 := IntWalk.u32_in _ (by omega)
        generalize hi : sl' k = i
        have Hi : Hid _ := hi
        clear hi
        go_wp2_with (fail)
        generalize hw4 : w3.setCell ⟨w.heap.size + 1 + 1, k, none⟩ _ = w4
        have HC4 : Hid (Cnt w4 (w.heap.size + 1 + 1) (upd cnt k (cnt k + 1))) := by
          rw [← hw4]
          show Cnt _ _ _
          have := HC3.out.set (k := k) (cnt k + 1)
          first | exact this | (simpa using this) | (simpa [hc0] using this)
        have hb4 : ∀ b, b ≠ w.heap.size + 1 + 1 → w4.heap[b]? = w3.heap[b]? := fun b hb => by rw [← hw4, Below.heap_setCell _ _ _ _ hb]
        have hK4 : Kept (fun b => ¬((b < w.heap.size ∨ b = w.heap.size + 1 + 1) ∨ b = w1.heap.size) ∨ b = w.heap.size + 1 + 1) w2 w4 := by
          rw [← hw4]
          exact (HK3.out.mono (fun _ _ h => .inl h)).setCell ⟨w.heap.size + 1 + 1, k, none⟩ (fun _ => .inr rfl) _
        clear hw4
        have HD4 : Hid (Dir (fun x => (x < w.heap.size ∨ x = w.heap.size + 1 + 1) ∨ x = w1.heap.size) w.heap.size (w.heap.size + 1) kl (j + 1) (upd cnt k (cnt k + 1)) sl' fr' w4) :=
          Dir.keep HD3.out (fun b _ hb => hb4 b (fun e => hb (.inl (.inr e)))) (fun _ _ e => e)
        have HB4 : Hid (Below w.heap.size w w4) := HB2.out.trans (hK4.below (fun b h => by
          rcases h with h | h
          · rcases Nat.lt_or_ge b w.heap.size with h' | h'
            · exact absurd (.inl (.inl h')) h
            · exact h'
          · omega) (by omega))
        have hR := HD4.out.reads hk (by rw [upd_same]; omega) (by omega)
        have HN4 : Hid (w4.heap[w1.heap.size]? = some (.cells X.toArray 40 (0, 0))) := (hb4 _ (fun e => hcb e.symm)).trans HN3.out
        have ck4 := HC4.out.cell hk
        rw [upd_same] at ck4 hR
        rw [Hi.out, HX.out] at hR
        obtain ⟨gi, capi, gr, capr, n, m, af, capf, r1, r2, r3, r4, r5, _, _, _, _⟩ := hR
        have k2 := dir2 r1
        have k3 := dir3 r1
        have hla : (loadCells ⟨gi, i * 64, none⟩ 64).run Yba.prog w4.drew = .ok X.toArray w4.drew := lc40 (w := w4.drew) r4 hlen
        have hlb : (loadCells ⟨w1.heap.size, 0, none⟩ 64).run Yba.prog w4.drew = .ok X.toArray w4.drew := lc40_block (w := w4.drew) HN4.out hlen
        have heq : (Op.equalIn 10000 40 (.agg X.toArray) (.agg X.toArray)).run Yba.prog w4.drew = .ok true w4.drew := by
          rw [← HX.out]; exact eq_idk k hk _
        have r2' : (i : Int) < (n : Int) := by omega
        clear r1 r4 hb4 hK4 ck cf
        refine wp_region_still_lit (by kernel_rfl) (by kernel_rfl) ?_
        change wpStill _ _ w4.drew _ _ _
        repeat still_step
        refine wpStill_nil ?_
        change Exit.then _ _ _ _ w4.drew
        go_wp2
        clear hla hlb heq k2 k3 ck4 r5
        go_roundw
        case rel => exact ⟨j + 1, upd cnt k (cnt k + 1), sl', fr', by simp, by omega, Dir.keep HD4.out (fun _ _ _ => rfl) (fun _ _ e => .inl e), HC4.out.keep rfl, HB4.out.trans ((Below.refl _ _).drew)⟩
        case measure => simp [intOf]; omega
      · by_cases hc0 : cnt k = 0
        · have hc0' : ((cnt k : Int) == 0) = true := by simp [hc0]
          have hq' : (z.tdiv 4 % 2 == 0) = false := by simp [hq]
          go_wp2_with (fail)
          refine Calls.mono Hhold.out ?_
          rintro e w3 ⟨sl', fr', rfl, hD3, hK3⟩
          clear ck hl2 Hhold
          have HD3 : Hid _ := hD3
          have HK3 : Hid _ := hK3
          have hsz3 := hK3.size
          have HC3 : Hid (Cnt w3 (w.heap.size + 1 + 1) cnt) := HC2.out.keep (hK3.block _ HC2.out.lt (fun h => h (.inl (.inr rfl))))
          have HN3 : Hid (w3.heap[w1.heap.size]? = some (.cells X.toArray 40 (0, 0))) := (hK3.block _ (by omega) (fun h => h (.inr rfl))).trans HN2.out
          clear hD3 hK3
          have ck := HC3.out.cell hk
          have cf := HC3.out.froz k
          have hct : cnt k ≤ j := by
            obtain ⟨_, _, _, _, _, _, _, _, _, hh⟩ := HD.out
            exact hh.bc k
          have wc : IntKind.u32.wrap ((cnt k : Int) + 1) = (cnt k : Int) + 1 := IntWalk.u32_in _ (by omega)
          generalize hi : sl' k = i
          have Hi : Hid _ := hi
          clear hi
          go_wp2_with (fail)
          generalize hw4 : w3.setCell ⟨w.heap.size + 1 + 1, k, none⟩ _ = w4
          have HC4 : Hid (Cnt w4 (w.heap.size + 1 + 1) (upd cnt k (cnt k + 1))) := by
            rw [← hw4]
            show Cnt _ _ _
            have := HC3.out.set (k := k) (cnt k + 1)
            first | exact this | (simpa using this) | (simpa [hc0] using this)
          have hb4 : ∀ b, b ≠ w.heap.size + 1 + 1 → w4.heap[b]? = w3.heap[b]? := fun b hb => by rw [← hw4, Below.heap_setCell _ _ _ _ hb]
          have hK4 : Kept (fun b => ¬((b < w.heap.size ∨ b = w.heap.size + 1 + 1) ∨ b = w1.heap.size) ∨ b = w.heap.size + 1 + 1) w2 w4 := by
            rw [← hw4]
            exact (HK3.out.mono (fun _ _ h => .inl h)).setCell ⟨w.heap.size + 1 + 1, k, none⟩ (fun _ => .inr rfl) _
          clear hw4
          have HD4 : Hid (Dir (fun x => (x < w.heap.size ∨ x = w.heap.size + 1 + 1) ∨ x = w1.heap.size) w.heap.size (w.heap.size + 1) kl (j + 1) (upd cnt k (cnt k + 1)) sl' fr' w4) :=
            Dir.keep HD3.out (fun b _ hb => hb4 b (fun e => hb (.inl (.inr e)))) (fun _ _ e => e)
          have HB4 : Hid (Below w.heap.size w w4) := HB2.out.trans (hK4.below (fun b h => by
            rcases h with h | h
            · rcases Nat.lt_or_ge b w.heap.size with h' | h'
              · exact absurd (.inl (.inl h')) h
              · exact h'
            · omega) (by omega))
          have hR := HD4.out.reads hk (by rw [upd_same]; omega) (by omega)
          have HN4 : Hid (w4.heap[w1.heap.size]? = some (.cells X.toArray 40 (0, 0))) := (hb4 _ (fun e => hcb e.symm)).trans HN3.out
          have ck4 := HC4.out.cell hk
          rw [upd_same] at ck4 hR
          rw [Hi.out, HX.out] at hR
          obtain ⟨gi, capi, gr, capr, n, m, af, capf, r1, r2, r3, r4, r5, _, _, _, _⟩ := hR
          have k2 := dir2 r1
          have k3 := dir3 r1
          have hla : (loadCells ⟨gi, i * 64, none⟩ 64).run Yba.prog w4.drew = .ok X.toArray w4.drew := lc40 (w := w4.drew) r4 hlen
          have hlb : (loadCells ⟨w1.heap.size, 0, none⟩ 64).run Yba.prog w4.drew = .ok X.toArray w4.drew := lc40_block (w := w4.drew) HN4.out hlen
          have heq : (Op.equalIn 10000 40 (.agg X.toArray) (.agg X.toArray)).run Yba.prog w4.drew = .ok true w4.drew := by
            rw [← HX.out]; exact eq_idk k hk _
          have r2' : (i : Int) < (n : Int) := by omega
          clear r1 r4 hb4 hK4 ck cf
          refine wp_region_still_lit (by kernel_rfl) (by kernel_rfl) ?_
          change wpStill _ _ w4.drew _ _ _
          repeat still_step
          refine wpStill_nil ?_
          change Exit.then _ _ _ _ w4.drew
          go_wp2
          clear hla hlb heq k2 k3 ck4 r5
          go_roundw
          case rel => exact ⟨j + 1, upd cnt k (cnt k + 1), sl', fr', by simp, by omega, Dir.keep HD4.out (fun _ _ _ => rfl) (fun _ _ e => .inl e), HC4.out.keep rfl, HB4.out.trans ((Below.refl _ _).drew)⟩
          case measure => simp [intOf]; omega
        · have hc0' : ((cnt k : Int) == 0) = false := by simpa using hc0
          have hq' : (z.tdiv 4 % 2 == 0) = false := by simp [hq]
          have hcp : 0 < cnt k := by omega
          have Hnum : Hid _ := number_dir Hkl.out HDb.out hk
          rw [HX.out] at Hnum
          clear Hhold
          go_wp2_with (fail)
          refine Calls.mono Hnum.out ?_
          rintro e w3 ⟨c, rfl, hcs, hB3, hD3⟩
          obtain rfl := hcs hcp
          have hcd : decide (0 < cnt k) = true := by simpa using hcp
          rw [hcd]
          clear hcs hcd ck hl2 Hnum
          have HD3 : Hid _ := hD3
          have hsz3 := hB3.size
          have HC3 : Hid (Cnt w3 (w.heap.size + 1 + 1) cnt) := HC2.out.keep (hB3.block _ HC2.out.lt)
          have HN3 : Hid (w3.heap[w1.heap.size]? = some (.cells X.toArray 40 (0, 0))) := (hB3.block _ hltb).trans HN2.out
          have HB3 : Hid (Below w.heap.size w w3) := HB2.out.trans ((Kept.mk hB3.os hB3.tape hB3.output hB3.size (fun b hb _ => hB3.block b hb) : Kept (fun _ => False) w2 w3).below (fun _ h => h.elim) (by omega))
          have hR3 := Dir.reads HD3.out hk hcp (by omega)
          obtain ⟨gi, capi, gr, capr, n, m, af, capf, r1, _, _, _, _, _, _, _, _⟩ := hR3
          have k5 := dir5 r1
          have hav3 : ∀ x, ((x < w.heap.size ∨ x = w.heap.size + 1 + 1) ∨ x = w1.heap.size) → x < w3.heap.size := fun x hx => by omega
          have Hrel : Hid _ := release_dir Hkl.out HD3.out hav3 (by omega) hk hcp ht5
          clear hD3 hB3 r1 hav3
          generalize hi : sl k = i at Hrel
          have Hi : Hid _ := hi
          clear hi
          go_wp2_with (fail)
          refine Calls.mono Hrel.out ?_
          rintro e w4 ⟨fr', rfl, hD4, hK4, hfr, hR4⟩
          clear k5 Hrel
          have HK4 : Hid _ := hK4
          have hsz4 := hK4.size
          have HC4 : Hid (Cnt w4 (w.heap.size + 1 + 1) cnt) := HC3.out.keep (hK4.block _ HC3.out.lt (fun h => h (.inl (.inr rfl))))
          have HN4 : Hid (w4.heap[w1.heap.size]? = some (.cells X.toArray 40 (0, 0))) := (hK4.block _ (by omega) (fun h => h (.inr rfl))).trans HN3.out
          have HD4 : Hid _ := hD4
          have HR4 : Hid _ := hR4
          have Hfr : Hid _ := hfr
          clear hD4 hK4 hR4 hfr
          have ck := HC4.out.cell hk
          have cf := HC4.out.froz k
          have hct : cnt k ≤ j := by
            obtain ⟨_, _, _, _, _, _, _, _, _, hh⟩ := HD.out
            exact hh.bc k
          have wc : IntKind.u32.wrap ((cnt k : Int) - 1) = (cnt k : Int) - 1 := IntWalk.u32_in _ (by omega)
          go_wp2_with (fail)
          generalize hw5 : w4.setCell ⟨w.heap.size + 1 + 1, k, none⟩ _ = w5
          have HC5 : Hid (Cnt w5 (w.heap.size + 1 + 1) (upd cnt k (cnt k - 1))) := by
            rw [← hw5]
            show Cnt _ _ _
            have := HC4.out.set (k := k) (cnt k - 1)
            rw [show ((cnt k - 1 : Nat) : Int) = (cnt k : Int) - 1 by omega] at this
            exact this
          have hb5 : ∀ b, b ≠ w.heap.size + 1 + 1 → w5.heap[b]? = w4.heap[b]? := fun b hb => by rw [← hw5, Below.heap_setCell _ _ _ _ hb]
          have hK5 : Kept (fun b => ¬((b < w.heap.size ∨ b = w.heap.size + 1 + 1) ∨ b = w1.heap.size) ∨ b = w.heap.size + 1 + 1) w3 w5 := by
            rw [← hw5]
            exact (HK4.out.mono (fun _ _ h => .inl h)).setCell ⟨w.heap.size + 1 + 1, k, none⟩ (fun _ => .inr rfl) _
          have hsz5 : w5.heap.size = w4.heap.size := by rw [← hw5]; simp [World.setCell]
          clear hw5
          have HD5 : Hid (Dir (fun x => (x < w.heap.size ∨ x = w.heap.size + 1 + 1) ∨ x = w1.heap.size) w.heap.size (w.heap.size + 1) kl (j + 1) (upd cnt k (cnt k - 1)) sl fr' w5) :=
            Dir.keep HD4.out (fun b _ hb => hb5 b (fun e => hb (.inl (.inr e)))) (fun _ _ e => e)
          have hR5 := Reads.keep HR4.out (w' := w5) (fun b _ hb => hb5 b (fun e => hb (.inl (.inr e)))) (by omega)
          have HB5 : Hid (Below w.heap.size w w5) := HB3.out.trans (hK5.below (fun b h => by
            rcases h with h | h
            · rcases Nat.lt_or_ge b w.heap.size with h' | h'
              · exact absurd (.inl (.inl h')) h
              · exact h'
            · omega) (by omega))
          have HN5 : Hid (w5.heap[w1.heap.size]? = some (.cells X.toArray 40 (0, 0))) := (hb5 _ (fun e => hcb e.symm)).trans HN4.out
          have ck5 := HC5.out.cell hk
          rw [upd_same] at ck5
          have HR5 : Hid _ := hR5
          obtain ⟨gi, capi, gr, capr, n, m, af, capf, r1, r2, r3, r4, r5, _, _, _, _⟩ := hR5
          have k3 := dir3 r1
          have r2' : (i : Int) < (n : Int) := by omega
          clear r1 r4 hb5 hK5 ck cf wc
          refine wp_region_still_lit (by kernel_rfl) (by kernel_rfl) ?_
          change wpStill _ _ w5.drew _ _ _
          repeat still_step
          refine wpStill_nil ?_
          change Exit.then _ _ _ _ w5.drew
          clear r2 r2' r3 r5 k3
          have hR6 : Reads (fun x => (x < w.heap.size ∨ x = w.heap.size + 1 + 1) ∨ x = w1.heap.size) w5.drew (w.heap.size + 1) i (if cnt k = 1 then zid else idk k) (cnt k - 1) fr' := Reads.keep HR5.out (w' := w5.drew) (fun _ _ _ => rfl) (Nat.le_refl _)
          have HD6 : Hid (Dir (fun x => (x < w.heap.size ∨ x = w.heap.size + 1 + 1) ∨ x = w1.heap.size) w.heap.size (w.heap.size + 1) kl (j + 1) (upd cnt k (cnt k - 1)) sl fr' w5.drew) :=
            Dir.keep HD5.out (fun _ _ _ => rfl) (fun _ _ e => e)
          have HC6 : Hid (Cnt w5.drew (w.heap.size + 1 + 1) (upd cnt k (cnt k - 1))) := HC5.out.keep rfl
          have HB6 : Hid (Below w.heap.size w w5.drew) := HB5.out.trans ((Below.refl _ _).drew)
          have HN6 : Hid (w5.drew.heap[w1.heap.size]? = some (.cells X.toArray 40 (0, 0))) := HN5.out
          have hsz6 : w5.drew.heap.size = w4.heap.size := hsz5
          have HR6 : Hid _ := hR6
          have Hnum : Hid _ := number_dir Hkl.out HD6.out hk
          rw [HX.out] at Hnum
          have hl6 : (loadCells ⟨w1.heap.size, 0, none⟩ 64).run Yba.prog w5.drew = .ok X.toArray w5.drew := lc40_block HN6.out hlen
          clear HR5 HD5 HC5 HB5 HN5 hsz5 hR6
          by_cases h1 : cnt k = 1
          · have h1' : (((cnt k - 1 : Nat) : Int) == 0) = true := by simp [h1]
            go_wp2_with (fail)
            refine Calls.mono Hnum.out ?_
            rintro e w7 ⟨c7, rfl, hc7, hB7, hD7⟩
            have HD7 : Hid (Dir (fun x => (x < w.heap.size ∨ x = w.heap.size + 1 + 1) ∨ x = w1.heap.size) w.heap.size (w.heap.size + 1) kl (j + 1) (upd cnt k (cnt k - 1)) sl fr' w7) := hD7
            have hsz7 := hB7.size
            have HC7 : Hid (Cnt w7 (w.heap.size + 1 + 1) (upd cnt k (cnt k - 1))) := HC6.out.keep (hB7.block _ HC6.out.lt)
            have HN7 : Hid (w7.heap[w1.heap.size]? = some (.cells X.toArray 40 (0, 0))) := (hB7.block _ (by omega)).trans HN6.out
            have HB7 : Hid (Below w.heap.size w w7) := HB6.out.trans ((Kept.mk hB7.os hB7.tape hB7.output hB7.size (fun b hb _ => hB7.block b hb) : Kept (fun _ => False) w5.drew w7).below (fun _ h => h.elim) (by omega))
            have hR7 := Reads.keep HR6.out (w' := w7) (fun b hb _ => hB7.block b hb) hB7.size
            have hbf : fr.length ≤ j := by
              obtain ⟨_, _, _, _, _, _, _, _, _, hh⟩ := HD.out
              exact hh.bf
            have hcd : decide (0 < upd cnt k (cnt k - 1) k) = false := by rw [upd_same, h1]; rfl
            rw [hcd]
            have hfr : fr' = fr ++ [i] := by rw [Hfr.out, if_pos h1]
            have hfl : fr'.length = fr.length + 1 := by rw [hfr]; simp
            rw [if_pos h1] at hR7
            obtain ⟨gi, capi, gr, capr, n, m, af, capf, r1, r2, r3, r4, r5, _, _, _, r8⟩ := hR7
            obtain ⟨gf, rfl, _, kf⟩ := r8 fr i hfr
            have k2 := dir2 r1
            have k5 := dir5 r1
            rw [hfl] at k5
            have hla : (loadCells ⟨gi, i * 64, none⟩ 64).run Yba.prog w7 = .ok zid.toArray w7 := lc40 r4 zid_len
            have hbd := build40 w7
            have heq := eq_zid w7
            have r2' : (i : Int) < (n : Int) := by omega
            have wf : IntKind.i64.wrap ((fr.length : Int) + 1) = (fr.length : Int) + 1 := IntWalk.i64_in _ (by omega)
            have lf : (fr.length : Int) < (fr.length : Int) + 1 := by omega
            clear r1 r4 r8 hc7 hB7 hD7 hcd hl6 ck5 Hnum hfr hfl
            go_wp2_with (fail)
            clear hla hbd heq k2 k5 kf r5 r2' r2 r3 wf lf
            obtain ⟨cn, hcn⟩ : ∃ cn, upd cnt k (cnt k - 1) = cn := ⟨_, rfl⟩
            rw [hcn] at HD7 HC7
            clear hcn
            go_loopw [17, 18] (fun l q wr => ∃ (p L : Nat), q = .int .i64 p ∧ p ≤ 4 ∧ l = .int .i64 L ∧ Hid (L = liveTo cn p) ∧ wr = w7) (fun _ q _ => 4 - (intOf q).toNat)
            case atStart => exact ⟨0, 0, rfl, by omega, rfl, rfl, rfl⟩
            case round =>
              obtain ⟨p, L, rfl, hp, rfl, HL, rfl⟩ := hrel
              have hLp : L ≤ p := by rw [HL.out]; exact liveTo_le cn p
              by_cases hp4 : p < 4
              · have cp := HC7.out.cell hp4
                have hp' : (p : Int) < 4 := by omega
                by_cases hc : 0 < cn p
                · have hcz : (0 : Int) < (cn p : Int) := by omega
                  have wL : IntKind.i64.wrap ((L : Int) + 1) = (L : Int) + 1 := IntWalk.i64_in _ (by omega)
                  go_wp2
                  go_roundw
                  case rel => exact ⟨p + 1, L + 1, by simp, by omega, by simp, show L + 1 = liveTo cn (p + 1) by rw [liveTo, if_pos hc, HL.out], by first | rfl | trivial⟩
                  case measure => simp [intOf]; omega
                · have hcz : ¬ (0 : Int) < (cn p : Int) := by omega
                  go_wp2
                  go_roundw
                  case rel => exact ⟨p + 1, L, by simp, by omega, by simp, show L = liveTo cn (p + 1) by rw [liveTo, if_neg hc, HL.out]; rfl, by first | rfl | trivial⟩
                  case measure => simp [intOf]; omega
              · have hp5 : p = 4 := by omega
                subst hp5
                obtain ⟨m9, N9, n9, I9, R9, F9, ids9, refs9, D9, h9⟩ := HD7.out
                have k4 := dir4 h9.hd
                have hln := h9.hm.len Yba.underlying112 3
                rw [h9.hsize, live_to, ← HL.out] at hln
                clear h9
                go_wp2
                go_roundw
                case rel => exact ⟨j + 1, cn, sl, fr', by simp, by omega, Dir.keep HD7.out (fun _ _ _ => rfl) (fun _ _ e => .inl e), HC7, HB7⟩
                case measure => simp [intOf]; omega

          · have h1' : (((cnt k - 1 : Nat) : Int) == 0) = false := by simp; omega
            go_wp2_with (fail)
            refine Calls.mono Hnum.out ?_
            rintro e w7 ⟨c7, rfl, hc7, hB7, hD7⟩
            have HD7 : Hid (Dir (fun x => (x < w.heap.size ∨ x = w.heap.size + 1 + 1) ∨ x = w1.heap.size) w.heap.size (w.heap.size + 1) kl (j + 1) (upd cnt k (cnt k - 1)) sl fr' w7) := hD7
            have hsz7 := hB7.size
            have HC7 : Hid (Cnt w7 (w.heap.size + 1 + 1) (upd cnt k (cnt k - 1))) := HC6.out.keep (hB7.block _ HC6.out.lt)
            have HN7 : Hid (w7.heap[w1.heap.size]? = some (.cells X.toArray 40 (0, 0))) := (hB7.block _ (by omega)).trans HN6.out
            have HB7 : Hid (Below w.heap.size w w7) := HB6.out.trans ((Kept.mk hB7.os hB7.tape hB7.output hB7.size (fun b hb _ => hB7.block b hb) : Kept (fun _ => False) w5.drew w7).below (fun _ h => h.elim) (by omega))
            have hR7 := Reads.keep HR6.out (w' := w7) (fun b hb _ => hB7.block b hb) hB7.size
            have hbf : fr.length ≤ j := by
              obtain ⟨_, _, _, _, _, _, _, _, _, hh⟩ := HD.out
              exact hh.bf
            have hcd : decide (0 < upd cnt k (cnt k - 1) k) = true := by rw [upd_same]; simp; omega
            rw [hcd]
            obtain rfl := hc7 (by rw [upd_same]; omega)
            rw [Hi.out]
            have hfr : fr' = fr := by rw [Hfr.out, if_neg h1]
            rw [if_neg h1, HX.out] at hR7
            obtain ⟨gi, capi, gr, capr, n, m, af, capf, r1, r2, r3, r4, r5, _, _, _, _⟩ := hR7
            have k2 := dir2 r1
            have k5 := dir5 r1
            rw [hfr] at k5
            have hla : (loadCells ⟨gi, i * 64, none⟩ 64).run Yba.prog w7.drew = .ok X.toArray w7.drew := lc40 (w := w7.drew) r4 hlen
            have hlb : (loadCells ⟨w1.heap.size, 0, none⟩ 64).run Yba.prog w7.drew = .ok X.toArray w7.drew := lc40_block (w := w7.drew) HN7.out hlen
            have heq : (Op.equalIn 10000 40 (.agg X.toArray) (.agg X.toArray)).run Yba.prog w7.drew = .ok true w7.drew := by
              rw [← HX.out]; exact eq_idk k hk _
            have r2' : (i : Int) < (n : Int) := by omega
            clear r1 r4 hc7 hB7 hD7 hcd hl6 ck5 Hnum hfr
            go_wp2_with (fail)
            refine wp_region_still_lit (by kernel_rfl) (by kernel_rfl) ?_
            change wpStill _ _ w7.drew _ _ _
            repeat still_step
            refine wpStill_nil ?_
            change Exit.then _ _ _ _ w7.drew
            clear hla hlb heq k2 r5 r2' r2 r3
            have HD8 : Hid (Dir (fun x => (x < w.heap.size ∨ x = w.heap.size + 1 + 1) ∨ x = w1.heap.size) w.heap.size (w.heap.size + 1) kl (j + 1) (upd cnt k (cnt k - 1)) sl fr' w7.drew) := Dir.keep HD7.out (fun _ _ _ => rfl) (fun _ _ e => e)
            have HC8 : Hid (Cnt w7.drew (w.heap.size + 1 + 1) (upd cnt k (cnt k - 1))) := HC7.out.keep rfl
            have HB8 : Hid (Below w.heap.size w w7.drew) := HB7.out.trans ((Below.refl _ _).drew)
            go_wp2_with (fail)
            clear k5
            obtain ⟨cn, hcn⟩ : ∃ cn, upd cnt k (cnt k - 1) = cn := ⟨_, rfl⟩
            rw [hcn] at HD8 HC8
            clear hcn
            go_loopw [17, 18] (fun l q wr => ∃ (p L : Nat), q = .int .i64 p ∧ p ≤ 4 ∧ l = .int .i64 L ∧ Hid (L = liveTo cn p) ∧ wr = w7.drew) (fun _ q _ => 4 - (intOf q).toNat)
            case atStart => exact ⟨0, 0, rfl, by omega, rfl, rfl, rfl⟩
            case round =>
              obtain ⟨p, L, rfl, hp, rfl, HL, rfl⟩ := hrel
              have hLp : L ≤ p := by rw [HL.out]; exact liveTo_le cn p
              by_cases hp4 : p < 4
              · have cp := HC8.out.cell hp4
                have hp' : (p : Int) < 4 := by omega
                by_cases hc : 0 < cn p
                · have hcz : (0 : Int) < (cn p : Int) := by omega
                  have wL : IntKind.i64.wrap ((L : Int) + 1) = (L : Int) + 1 := IntWalk.i64_in _ (by omega)
                  go_wp2
                  go_roundw
                  case rel => exact ⟨p + 1, L + 1, by simp, by omega, by simp, show L + 1 = liveTo cn (p + 1) by rw [liveTo, if_pos hc, HL.out], by first | rfl | trivial⟩
                  case measure => simp [intOf]; omega
                · have hcz : ¬ (0 : Int) < (cn p : Int) := by omega
                  go_wp2
                  go_roundw
                  case rel => exact ⟨p + 1, L, by simp, by omega, by simp, show L = liveTo cn (p + 1) by rw [liveTo, if_neg hc, HL.out]; rfl, by first | rfl | trivial⟩
                  case measure => simp [intOf]; omega
              · have hp5 : p = 4 := by omega
                subst hp5
                obtain ⟨m9, N9, n9, I9, R9, F9, ids9, refs9, D9, h9⟩ := HD8.out
                have k4 := dir4 h9.hd
                have hln := h9.hm.len Yba.underlying112 3
                rw [h9.hsize, live_to, ← HL.out] at hln
                clear h9
                go_wp2
                go_roundw
                case rel => exact ⟨j + 1, cn, sl, fr', by simp, by omega, Dir.keep HD8.out (fun _ _ _ => rfl) (fun _ _ e => .inl e), HC8, HB8⟩
                case measure => simp [intOf]; omega
    · have hje : j = len := by omega
      subst hje
      go_wp2
      go_ret
      exact ⟨rfl, HB.out⟩

set_option maxRecDepth 20000 in
set_option maxHeartbeats 2000000 in
theorem release_nil (w : World) : Calls Yba.prog 4 #[.slice none 0 0] w fun e w' => e = .returned (.bool true) ∧ Below w.heap.size w w' := by
  go_enter Yba.func4, Yba.ntmps4
  go_wp2_with (go_at_call 15; refine (new_dir _).mono ?_; rintro e w' ⟨rfl, rfl⟩)
  refine wp_loop_rounds 1 ?_
  rw [rounds_succ]
  go_wp2
  go_ret
  exact ⟨rfl, (((Below.refl w.heap.size w).alloc (Nat.le_refl _) _).alloc (by simp) _).alloc (by simp; omega) _⟩

set_option maxRecDepth 20000 in
set_option maxHeartbeats 2000000 in
theorem release_long (a : Option Addr) (len cap : Nat) (w : World) (h : 1024 < len) : Calls Yba.prog 4 #[.slice a len cap] w fun e w' => e = .returned (.bool true) ∧ Below w.heap.size w w' := by
  have hgt : (1024 : Int) < (len : Int) := by omega
  go_enter Yba.func4, Yba.ntmps4
  go_wp2
  go_ret
  exact ⟨rfl, Below.refl _ _⟩
end Go.Proofs.Ybulkamjs
