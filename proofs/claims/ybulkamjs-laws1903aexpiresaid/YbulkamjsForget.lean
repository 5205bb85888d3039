/- (*lookups).forget of the lookup that ends soonest. -/
import Derived.Test.YbulkamjsDueQ
import Derived.Test.YbulkamjsStore
import Derived.Test.YbulkamjsPend
namespace Go.Proofs.Ybulkamjs
open Go.RowKit Go.Maps Go.WideMaps
set_option linter.unusedSimpArgs false
set_option linter.unusedVariables false

def lkObj (mn mp : Nat) (q : Value) : Obj := .cells #[.map (some mn), q, .map (some mp), .int .u64 0] 69 (0, 0)
theorem lk_cell {w : World} {l mn mp : Nat} {q : Value} (h : w.heap[l]? = some (lkObj mn mp q)) (j : Nat) : w.cell? ⟨l, j, none⟩ = #[.map (some mn), q, .map (some mp), .int .u64 0][j]? := cell_of_row w l j _ 69 (0, 0) h
theorem lk_frozen {w : World} {l mn mp : Nat} {q : Value} (h : w.heap[l]? = some (lkObj mn mp q)) (j : Nat) : w.frozen? ⟨l, j, none⟩ = false := by simp [World.frozen?, h, lkObj]
structure ItemQ (A : Array Value) (x : Nat) : Prop where
  size : A.size = 138
  num : A[3]? = some (.int .u64 (x : Nat))
  frm : ∀ j, j < 64 → A[70 + j]? = some (.int .u8 0)
/-- The lookups: n of them, the item in block f k at the place k of the queue. -/
structure Lk (X : Nat → Array Value) (key nu : Nat → Nat) (w : World) (l bk mn mp cap n : Nat) (f : Nat → Nat) : Prop where
  obj : ∃ qa, w.heap[l]? = some (lkObj mn mp (.slice qa n cap)) ∧ (0 < n → qa = some ⟨bk, 0, none⟩)
  qu : Qu 56 63 137 X key w bk n f
  heap : HeapO key f n
  item : ∀ k, k < n → ItemQ (X (f k)) (nu (f k)) ∧ nu (f k) < 100000
  nui : ∀ i j, i < n → j < n → nu (f i) = nu (f j) → i = j
  num : ∃ N D, w.ownsMap Yba.prog 25 R1 mn N D ∧ Maps.size D = n ∧ ∀ k, k < n → Maps.has D (.int .u64 (nu (f k) : Nat)) = true
  pend : Pend w mp n
  mm : mn ≠ mp
  cap : n ≤ cap ∧ cap < 9223372036854775808 ∧ n < 100000
def LkO (l bk mn mp n : Nat) (f : Nat → Nat) (k : Nat) : Prop := k = l ∨ (0 < n ∧ k = bk) ∨ k = mn ∨ k = mp ∨ ∃ i, i < n ∧ k = f i
theorem Lk.obj1 {X : Nat → Array Value} {key nu f : Nat → Nat} {w : World} {l bk mn mp cap n : Nat} (h : Lk X key nu w l bk mn mp cap n f) (hn : 0 < n) : w.heap[l]? = some (lkObj mn mp (.slice (some ⟨bk, 0, none⟩) n cap)) := by
  obtain ⟨qa, h1, h2⟩ := h.obj
  rw [h1, h2 hn]
theorem Lk.obj2 {X : Nat → Array Value} {key nu f : Nat → Nat} {w : World} {l bk mn mp cap n : Nat} (h : Lk X key nu w l bk mn mp cap n f) : ∃ C, w.heap[l]? = some (.cells C 69 (0, 0)) := by
  obtain ⟨qa, h1, _⟩ := h.obj
  exact ⟨_, h1⟩
theorem keyed25 : Keyed Yba.prog 25 := int_keyed Yba.underlying25
theorem key25 {x : Nat} (h : x < 100000) : keyOf Yba.prog 25 (.int .u64 (x : Nat)) = some (.int .u64 (x : Nat)) := by
  have hw : (Lit.int .u64 (x : Nat)).wf = true := by
    have h2 : IntKind.u64.min = 0 := rfl
    have h3 : IntKind.u64.max = 18446744073709551615 := rfl
    simp [Lit.wf, h2, h3]; omega
  simp [keyOf, Yba.underlying25, mapKey, hw]
attribute [-go_sem] loadCells

set_option maxRecDepth 20000 in
set_option maxHeartbeats 8000000 in
theorem forget (X : Nat → Array Value) (key nu f : Nat → Nat) (w : World) (l bk mn mp cap n : Nat) (h : Lk X key nu w l bk mn mp cap (n + 1) f) :
    Calls Yba.prog 63 #[.pointer (some ⟨l, 0, none⟩), .pointer (some ⟨f 0, 0, none⟩)] w fun e w' => e = .returned (.tuple #[]) ∧ ∃ f', Lk X key nu w' l bk mn mp cap n f' ∧
      (∀ g, sumF g f' n + g (f 0) = sumF g f (n + 1)) ∧ (∀ k, k < n → ∃ k', k' < n + 1 ∧ f' k = f k') ∧ Kept (LkO l bk mn mp (n + 1) f) w w' := by
  have H : Hid (Lk X key nu w l bk mn mp cap (n + 1) f) := h
  have hobj := h.obj1 (by omega)
  have Hobj : Hid (w.heap[l]? = some (lkObj mn mp (.slice (some ⟨bk, 0, none⟩) (n + 1) cap))) := hobj
  obtain ⟨b, hb⟩ : ∃ b, b = f 0 := ⟨_, rfl⟩
  have Hb : Hid (b = f 0) := hb
  have hI := (h.item 0 (by omega)).1
  have hx := (h.item 0 (by omega)).2
  have hit := h.qu.it 0 (by omega)
  rw [← hb] at hI hx hit ⊢
  obtain ⟨x, hxe⟩ : ∃ x, x = nu b := ⟨_, rfl⟩
  rw [← hxe] at hI hx
  have Hx : Hid (x = nu b) := hxe
  have HI : Hid (ItemQ (X b) x) := hI
  have hllt : l < w.heap.size := lt_of_heap hobj
  have hblt : b < w.heap.size := lt_of_heap hit
  obtain ⟨N, D, hmn, hsn, hhn⟩ := h.num
  have c0 : w.cell? ⟨l, 0, none⟩ = some (.map (some mn)) := lk_cell hobj 0
  have cx : w.cell? ⟨b, 3, none⟩ = some (.int .u64 (x : Nat)) := by rw [cell_of_row w b 3 _ 63 (0, 0) hit, Array.getElem?_setIfInBounds, if_neg (by omega)]; exact hI.num
  have hmnd : w.drew.ownsMap Yba.prog 25 R1 mn N D := hmn.drew
  obtain ⟨W1, hdel, hmn1, ht1⟩ := hmnd.drop keyed25 Yba.underlying64 (key25 hx) 0
  have HK1 : Hid (Kept (fun k => k = mn) w W1) := Kept.turned (Kept.drew (Kept.refl (fun k => k = mn) w)) ht1 (fun _ => rfl)
  have Hmn : Hid (w.ownsMap Yba.prog 25 R1 mn N D) := hmn
  have Hmn1 : Hid (W1.ownsMap Yba.prog 25 R1 mn N (D.del (.int .u64 (x : Nat)))) := hmn1
  have Hsn : Hid (Maps.size D = n + 1) := hsn
  have Hhn : Hid _ := hhn
  have hmm := h.mm
  have hnl : mn ≠ l := ownsMap_ne hmn hobj
  have hpl : mp ≠ l := h.pend.ne hobj
  have HnN : Hid (∀ k, k < n + 1 → mn ≠ f k) := fun k hk => ownsMap_ne hmn (h.qu.it k hk)
  have HnP : Hid (∀ k, k < n + 1 → mp ≠ f k) := fun k hk => h.pend.ne (h.qu.it k hk)
  have HnL : Hid (∀ k, k < n + 1 → f k ≠ l) := fun k hk => blk_ne (h.qu.it k hk) hobj (by decide)
  have hbks : mn ≠ bk ∧ mp ≠ bk ∧ l ≠ bk := by
    obtain ⟨C, hC, _⟩ := h.qu.blk (by omega)
    exact ⟨ownsMap_ne hmn hC, h.pend.ne hC, blk_ne hobj hC (by decide)⟩
  have Hbks : Hid _ := hbks
  clear hmnd hmn1 ht1 hmn hsn hhn hI hit hb hxe h hbks hobj
  go_enter Yba.func63, Yba.ntmps63
  go_wp2
  refine region_late (S := fun w' => w' = w.drew) (late := fun i => i == 9) (by kernel_rfl) ?_
  refine anyLate_takeW (i := 0) (v := .pointer (some ⟨l, 0, none⟩)) rfl (by kernel_rfl) (by kernel_rfl) (by kernel_rfl) (fun _ _ _ h => h) (.inl ⟨by kernel_rfl, fun w _ => by go_simp⟩) ?_
  simp only [Act.put, List.setIfInBounds_toArray, List.set_cons_zero, List.set_cons_succ]
  refine anyLate_takeW (i := 1) (v := .pointer (some ⟨l, 0, none⟩)) rfl (by kernel_rfl) (by kernel_rfl) (by kernel_rfl) (fun _ _ _ h => h) (.inl ⟨by kernel_rfl, fun w _ => by go_simp⟩) ?_
  simp only [Act.put, List.setIfInBounds_toArray, List.set_cons_zero, List.set_cons_succ]
  refine anyLate_takeW (i := 2) (v := .pointer (some ⟨l, 0, none⟩)) rfl (by kernel_rfl) (by kernel_rfl) (by kernel_rfl) (fun _ _ _ h => h) (.inl ⟨by kernel_rfl, fun w _ => by go_simp⟩) ?_
  simp only [Act.put, List.setIfInBounds_toArray, List.set_cons_zero, List.set_cons_succ]
  refine anyLate_take (i := 3) (v := .map (some mn)) rfl (by kernel_rfl) (by kernel_rfl) (by kernel_rfl) (fun _ _ _ h => h) rfl (by kernel_rfl) (.inl ⟨by kernel_rfl, fun w hSw => by (subst hSw; go_simp)⟩) rfl ?_
  simp only [Act.put, List.setIfInBounds_toArray, List.set_cons_zero, List.set_cons_succ]
  refine anyLate_takeW (i := 4) (v := .pointer (some ⟨b, 0, none⟩)) rfl (by kernel_rfl) (by kernel_rfl) (by kernel_rfl) (fun _ _ _ h => h) (.inl ⟨by kernel_rfl, fun w _ => by go_simp⟩) ?_
  simp only [Act.put, List.setIfInBounds_toArray, List.set_cons_zero, List.set_cons_succ]
  refine anyLate_takeW (i := 5) (v := .pointer (some ⟨b, 0, none⟩)) rfl (by kernel_rfl) (by kernel_rfl) (by kernel_rfl) (fun _ _ _ h => h) (.inl ⟨by kernel_rfl, fun w _ => by go_simp⟩) ?_
  simp only [Act.put, List.setIfInBounds_toArray, List.set_cons_zero, List.set_cons_succ]
  refine anyLate_takeW (i := 6) (v := .pointer (some ⟨b, 3, none⟩)) rfl (by kernel_rfl) (by kernel_rfl) (by kernel_rfl) (fun _ _ _ h => h) (.inl ⟨by kernel_rfl, fun w _ => by go_simp⟩) ?_
  simp only [Act.put, List.setIfInBounds_toArray, List.set_cons_zero, List.set_cons_succ]
  refine anyLate_takeW (i := 7) (v := .pointer (some ⟨b, 3, none⟩)) rfl (by kernel_rfl) (by kernel_rfl) (by kernel_rfl) (fun _ _ _ h => h) (.inl ⟨by kernel_rfl, fun w _ => by go_simp⟩) ?_
  simp only [Act.put, List.setIfInBounds_toArray, List.set_cons_zero, List.set_cons_succ]
  refine anyLate_take (i := 8) (v := .int .u64 (x : Nat)) rfl (by kernel_rfl) (by kernel_rfl) (by kernel_rfl) (fun _ _ _ h => h) rfl (by kernel_rfl) (.inl ⟨by kernel_rfl, fun w hSw => by (subst hSw; go_simp)⟩) rfl ?_
  simp only [Act.put, List.setIfInBounds_toArray, List.set_cons_zero, List.set_cons_succ]
  refine anyLate_ready (rs := [9]) (by kernel_rfl) (by simp) ?_
  refine AllLate.cons rfl (fun K' hK' => ?_) AllLate.nil
  go_simp
  refine hK'.out _ _ (fun h => by simp at h) ?_
  clear hK' c0 cx hdel
  refine anyLate_done (by kernel_rfl) ?_ _
  have ho1 : W1.heap[l]? = some (lkObj mn mp (.slice (some ⟨bk, 0, none⟩) (n + 1) cap)) := (HK1.out.block l hllt (fun e => hnl e.symm)).trans Hobj.out
  have HQ1 : Hid (Qu 56 63 137 X key W1 bk (n + 1) f) := H.out.qu.move (fun _ => HK1.out.block bk (H.out.qu.bk_lt (by omega)) (fun e => Hbks.out.1 e.symm)) (fun k hk => HK1.out.block (f k) (H.out.qu.it_lt hk) (fun e => HnN.out k hk e.symm))
  have HR : Hid _ := qremQ l 1 bk n cap X key f W1 HQ1.out (lk_cell ho1 1) H.out.cap.2.1 (by have := H.out.cap.2.2; omega) H.out.cap.1 Hbks.out.2.2 HnL.out H.out.heap (lk_frozen ho1 1)
  rw [← Hb.out] at HR
  have Ho1 : Hid _ := ho1
  clear ho1
  go_wp2_with (fail)
  refine Calls.mono HR.out ?_
  rintro e W2 ⟨f', rfl, hR⟩
  have ho2 : W2.heap[l]? = some (lkObj mn mp (.slice (some ⟨bk, 0, none⟩) n cap)) := hR.cell _ 69 Ho1.out
  have c2 : W2.cell? ⟨l, 2, none⟩ = some (.map (some mp)) := lk_cell ho2 2
  have hg := hR.gone
  rw [← Hb.out] at hg
  have l40 : (loadCells ⟨b, 70, none⟩ 64).run Yba.prog W2.drew = .ok zid.toArray W2.drew := by
    have := lcAt (w := W2.drew) (o := 70) (L := zid) hg (fun j hj => by
      rw [zid_len] at hj
      rw [Array.getElem?_setIfInBounds, if_neg (by omega), zid_get j hj]; exact HI.out.frm j hj)
    rwa [zid_len] at this
  have hp2 : Pend W2 mp (n + 1 : Nat) := H.out.pend.move ((hR.kept.block mp (Nat.lt_of_lt_of_le H.out.pend.lt HK1.out.size) (fun h => h.elim Hbks.out.2.1 (fun h => h.elim hpl (fun ⟨i, hi, e⟩ => HnP.out i hi e)))).trans (HK1.out.block mp H.out.pend.lt (fun e => hmm e.symm)))
  have hp2' : W2.drew.heap[mp]? = some (.map #[pe ((n + 1 : Nat) : Int)] 1) := hp2.one (by omega)
  have hlk := look_one hp2'
  have hen := entry_one hp2'
  have hes := store_one (n : Int) hp2'
  have Hp2 : Hid (W2.heap[mp]? = some (.map #[pe ((n + 1 : Nat) : Int)] 1)) := hp2'
  have HR2 : Hid (RmQ X key W1 l 1 bk n cap f W2 f') := hR
  have Ho2 : Hid _ := ho2
  have hn1 := H.out.cap
  have hn2 : n < 100000 := by omega
  clear hp2 hp2' hg ho2 hR HR hn1
  unfold zv at hlk hen
  have ecast : (((n + 1 : Nat) : Nat) : Int) = (n : Int) + 1 := by omega
  rw [ecast] at hlk hen
  clear ecast
  go_wp2
  refine region_late (S := fun w' => w' = W2.drew) (late := fun i => i == 13) (by kernel_rfl) ?_
  refine anyLate_takeW (i := 0) (v := .pointer (some ⟨l, 0, none⟩)) rfl (by kernel_rfl) (by kernel_rfl) (by kernel_rfl) (fun _ _ _ h => h) (.inl ⟨by kernel_rfl, fun w _ => by go_simp⟩) ?_
  simp only [Act.put, List.setIfInBounds_toArray, List.set_cons_zero, List.set_cons_succ]
  refine anyLate_takeW (i := 1) (v := .pointer (some ⟨l, 0, none⟩)) rfl (by kernel_rfl) (by kernel_rfl) (by kernel_rfl) (fun _ _ _ h => h) (.inl ⟨by kernel_rfl, fun w _ => by go_simp⟩) ?_
  simp only [Act.put, List.setIfInBounds_toArray, List.set_cons_zero, List.set_cons_succ]
  refine anyLate_takeW (i := 2) (v := .pointer (some ⟨l, 2, none⟩)) rfl (by kernel_rfl) (by kernel_rfl) (by kernel_rfl) (fun _ _ _ h => h) (.inl ⟨by kernel_rfl, fun w _ => by go_simp⟩) ?_
  simp only [Act.put, List.setIfInBounds_toArray, List.set_cons_zero, List.set_cons_succ]
  refine anyLate_take (i := 3) (v := .map (some mp)) rfl (by kernel_rfl) (by kernel_rfl) (by kernel_rfl) (fun _ _ _ h => h) rfl (by kernel_rfl) (.inl ⟨by kernel_rfl, fun w hSw => by (subst hSw; go_simp)⟩) rfl ?_
  simp only [Act.put, List.setIfInBounds_toArray, List.set_cons_zero, List.set_cons_succ]
  refine anyLate_takeW (i := 4) (v := .pointer (some ⟨b, 0, none⟩)) rfl (by kernel_rfl) (by kernel_rfl) (by kernel_rfl) (fun _ _ _ h => h) (.inl ⟨by kernel_rfl, fun w _ => by go_simp⟩) ?_
  simp only [Act.put, List.setIfInBounds_toArray, List.set_cons_zero, List.set_cons_succ]
  refine anyLate_takeW (i := 5) (v := .pointer (some ⟨b, 0, none⟩)) rfl (by kernel_rfl) (by kernel_rfl) (by kernel_rfl) (fun _ _ _ h => h) (.inl ⟨by kernel_rfl, fun w _ => by go_simp⟩) ?_
  simp only [Act.put, List.setIfInBounds_toArray, List.set_cons_zero, List.set_cons_succ]
  refine anyLate_takeW (i := 6) (v := .pointer (some ⟨b, 3, none⟩)) rfl (by kernel_rfl) (by kernel_rfl) (by kernel_rfl) (fun _ _ _ h => h) (.inl ⟨by kernel_rfl, fun w _ => by go_simp⟩) ?_
  simp only [Act.put, List.setIfInBounds_toArray, List.set_cons_zero, List.set_cons_succ]
  refine anyLate_takeW (i := 7) (v := .pointer (some ⟨b, 70, none⟩)) rfl (by kernel_rfl) (by kernel_rfl) (by kernel_rfl) (fun _ _ _ h => h) (.inl ⟨by kernel_rfl, fun w _ => by go_simp⟩) ?_
  simp only [Act.put, List.setIfInBounds_toArray, List.set_cons_zero, List.set_cons_succ]
  refine anyLate_take (i := 8) (v := .agg zid.toArray) rfl (by kernel_rfl) (by kernel_rfl) (by kernel_rfl) (fun _ _ _ h => h) rfl (by kernel_rfl) (.inl ⟨by kernel_rfl, fun w hSw => by (subst hSw; go_simp)⟩) rfl ?_
  simp only [Act.put, List.setIfInBounds_toArray, List.set_cons_zero, List.set_cons_succ]
  refine anyLate_take (i := 9) (v := .int .i64 ((n : Int) + 1)) rfl (by kernel_rfl) (by kernel_rfl) (by kernel_rfl) (fun _ _ _ h => h) rfl (by kernel_rfl) (.inl ⟨by kernel_rfl, fun w hSw => by (subst hSw; go_simp)⟩) rfl ?_
  simp only [Act.put, List.setIfInBounds_toArray, List.set_cons_zero, List.set_cons_succ]
  refine anyLate_takeW (i := 10) (v := .int .i64 (n : Int)) rfl (by kernel_rfl) (by kernel_rfl) (by kernel_rfl) (fun _ _ _ h => h) (.inl ⟨by kernel_rfl, fun w _ => by (go_simp; exact IntWalk.i64_in _ (by omega))⟩) ?_
  simp only [Act.put, List.setIfInBounds_toArray, List.set_cons_zero, List.set_cons_succ]
  refine anyLate_take (i := 11) (v := .tuple #[.int .i64 ((n : Int) + 1), .int .i64 0]) rfl (by kernel_rfl) (by kernel_rfl) (by kernel_rfl) (fun _ _ _ h => h) rfl (by kernel_rfl) (.inl ⟨by kernel_rfl, fun w hSw => by (subst hSw; go_simp)⟩) rfl ?_
  simp only [Act.put, List.setIfInBounds_toArray, List.set_cons_zero, List.set_cons_succ]
  refine anyLate_takeW (i := 12) (v := .int .i64 0) rfl (by kernel_rfl) (by kernel_rfl) (by kernel_rfl) (fun _ _ _ h => h) (.inl ⟨by kernel_rfl, fun w _ => by go_simp⟩) ?_
  simp only [Act.put, List.setIfInBounds_toArray, List.set_cons_zero, List.set_cons_succ]
  refine anyLate_ready (rs := [13]) (by kernel_rfl) (by simp) ?_
  refine AllLate.cons rfl (fun K' hK' => ?_) AllLate.nil
  go_simp
  refine hK'.out _ _ (fun h => by simp at h) ?_
  clear hK' c2 l40 hlk hen hes
  refine anyLate_done (by kernel_rfl) ?_ _
  have R := HR2.out
  have hKs : Kept (fun k => k = mp) W2 (setB W2.drew mp (.map #[pe (n : Int)] 1)) := Kept.setB (Kept.drew (Kept.refl (fun k => k = mp) W2)) mp _ (fun _ => rfl)
  have hpn : (setB W2.drew mp (.map #[pe (n : Int)] 1)).heap[mp]? = some (.map #[pe (n : Int)] 1) := setB_at (lt_of_heap Hp2.out)
  have HKs : Hid _ := hKs
  have Hpn : Hid _ := hpn
  have HRR : Hid _ := R
  clear hKs hpn R
  generalize setB W2.drew mp (.map #[pe (n : Int)] 1) = W' at HKs Hpn ⊢
  go_wp2
  go_end0
  have R := HR2.out
  have hKs := HKs.out
  have hmem := R.mem
  have hK1' : Kept (fun k => k = l ∨ k = bk ∨ k = mp ∨ ∃ i, i < n + 1 ∧ k = f i) W1 W' := (R.kept.mono (fun k _ h => h.elim (fun e => .inr (.inl e)) (fun h => h.elim .inl (fun h => .inr (.inr (.inr h)))))).trans hKs (fun k _ e => .inr (.inr (.inl e)))
  have hfp : ∀ k, k < n → f' k ≠ mp := fun k hk e => by
    obtain ⟨k', hk', e'⟩ := hmem k hk
    exact HnP.out k' hk' (e.symm.trans e')
  have hmn' : W'.ownsMap Yba.prog 25 R1 mn N (D.del (.int .u64 (x : Nat))) := ownsMap_heap Hmn1.out (hK1'.block mn (ownsMap_lt Hmn1.out) (fun h => h.elim hnl (fun h => h.elim Hbks.out.1 (fun h => h.elim hmm (fun ⟨i, hi, e⟩ => HnN.out i hi e)))))
  have hnun : ∀ k, k < n → nu (f' k) ≠ x := fun k hk e => by
    obtain ⟨k', hk', e'⟩ := hmem k hk
    rw [e', Hx.out, Hb.out] at e
    have := H.out.nui k' 0 hk' (by omega) e
    subst this
    exact R.ne k hk e'
  refine ⟨rfl, f', ⟨⟨_, (hKs.block l (lt_of_heap Ho2.out) (fun e => hpl e.symm)).trans Ho2.out, fun _ => rfl⟩, ?_, R.heap, fun k hk => ?_, fun a b' ha hb' e => ?_, ⟨N, _, hmn', ?_, fun k hk => ?_⟩, .inr Hpn.out, hmm, ?_⟩, ?_, hmem, ?_⟩
  · exact R.qu.move (fun hn0 => hKs.block bk (R.qu.bk_lt hn0) (fun e => Hbks.out.2.1 e.symm)) (fun k hk => hKs.block (f' k) (R.qu.it_lt hk) (hfp k hk))
  · obtain ⟨k', hk', e⟩ := hmem k hk
    rw [e]; exact H.out.item k' hk'
  · obtain ⟨a', ha', ea⟩ := hmem a ha
    obtain ⟨b1, hb1, eb⟩ := hmem b' hb'
    rw [ea, eb] at e
    have := H.out.nui a' b1 ha' hb1 e
    subst this
    exact R.qu.inj a b' ha hb' (ea.trans eb.symm)
  · have e1 := size_del (k := .int .u64 (x : Nat)) (Hmn.out.tidy keyed25)
    have h0 := Hhn.out 0 (by omega)
    rw [← Hb.out, ← Hx.out] at h0
    rw [h0, Hsn.out] at e1
    simp at e1
    omega
  · rw [has_del_other (fun e => hnun k hk (by injection e with _ e; omega))]
    obtain ⟨k', hk', e⟩ := hmem k hk
    rw [e]; exact Hhn.out k' hk'
  · have := H.out.cap
    omega
  · intro g; rw [Hb.out]; exact R.sum g
  · refine (HK1.out.mono (fun k _ h => .inr (.inr (.inl h)))).trans hK1' (fun k _ h => ?_)
    rcases h with h | h | h | ⟨j, hj, h⟩
    · exact .inl h
    · exact .inr (.inl ⟨by omega, h⟩)
    · exact .inr (.inr (.inr (.inl h)))
    · exact .inr (.inr (.inr (.inr ⟨j, hj, h⟩)))
end Go.Proofs.Ybulkamjs
