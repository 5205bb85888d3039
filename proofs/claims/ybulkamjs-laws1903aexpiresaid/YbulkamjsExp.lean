/- (*store).expire and (*lookups).expire. -/
import Derived.Test.YbulkamjsForget
namespace Go.Proofs.Ybulkamjs
open Go.RowKit Go.Maps Go.WideMaps
set_option linter.unusedSimpArgs false
set_option linter.unusedVariables false

/-- What due answers. -/
def dv (key f : Nat → Nat) (n t : Nat) : Option Addr := if n = 0 then none else if t < key (f 0) then none else some ⟨f 0, 0, none⟩
theorem dueS_any (qa : Option Addr) (bk n cap t : Nat) (X : Nat → Array Value) (key f : Nat → Nat) (w : World) (hQ : Qu 47 53 134 X key w bk n f) (hn : n < 100000) (ht : t < 65536) (hqa : 0 < n → qa = some ⟨bk, 0, none⟩) :
    Calls Yba.prog 60 #[.slice qa n cap, .agg #[.int .u64 t, .int .i64 0, .pointer none]] w fun e w' => e = .returned (.pointer (dv key f n t)) ∧ Below w.heap.size w w' := by
  cases n with
  | zero => exact dueS_none _ cap t w
  | succ n =>
    rw [hqa (by omega)]
    refine (dueS_some bk n cap t X key f w hQ (by omega) ht _ rfl).mono fun e w' ⟨he, hB⟩ => ⟨?_, hB⟩
    rw [he]
    unfold dv
    by_cases h : t < key (f 0) <;> simp [h]
theorem dueQ_any (qa : Option Addr) (bk n cap t : Nat) (X : Nat → Array Value) (key f : Nat → Nat) (w : World) (hQ : Qu 56 63 137 X key w bk n f) (hn : n < 100000) (ht : t < 65536) (hqa : 0 < n → qa = some ⟨bk, 0, none⟩) :
    Calls Yba.prog 62 #[.slice qa n cap, .agg #[.int .u64 t, .int .i64 0, .pointer none]] w fun e w' => e = .returned (.pointer (dv key f n t)) ∧ Below w.heap.size w w' := by
  cases n with
  | zero => exact dueQ_none _ cap t w
  | succ n =>
    rw [hqa (by omega)]
    refine (dueQ_some bk n cap t X key f w hQ (by omega) ht _ rfl).mono fun e w' ⟨he, hB⟩ => ⟨?_, hB⟩
    rw [he]
    unfold dv
    by_cases h : t < key (f 0) <;> simp [h]
def lenAt (w : World) (s o : Nat) : Nat := match w.cell? ⟨s, o, none⟩ with | some (.slice _ n _) => n | _ => 0

section
variable {X : Nat → Array Value} {key ix sl sz nu f : Nat → Nat} {w w' : World} {s l bk mv mk mn mp cap n : Nat} {cp bys ch : Int}
theorem St.keep (h : St X key ix sl sz w s bk mv mk cap n cp bys ch f) (hb : ∀ k, k < w.heap.size → w'.heap[k]? = w.heap[k]?) : St X key ix sl sz w' s bk mv mk cap n cp bys ch f := by
  obtain ⟨N, D, hm, h1, h2⟩ := h.val
  obtain ⟨N', D', hm', h1'⟩ := h.byk
  obtain ⟨qa, ho, hqa⟩ := h.obj
  exact ⟨⟨qa, (hb s (lt_of_heap ho)).trans ho, hqa⟩, h.qu.move (fun hn0 => hb bk (h.qu.bk_lt hn0)) (fun k hk => hb _ (h.qu.it_lt hk)), h.heap, h.item, h.ixi, ⟨N, D, ownsMap_heap hm (hb mv (ownsMap_lt hm)), h1, h2⟩,
    ⟨N', D', ownsMap_heap hm' (hb mk (ownsMap_lt hm')), h1'⟩, fun k hk => ⟨(hb _ (lt_of_heap (h.sls k hk).1)).trans (h.sls k hk).1, (h.sls k hk).2⟩, h.sli, h.mm, h.cap⟩
theorem Lk.keep (h : Lk X key nu w l bk mn mp cap n f) (hb : ∀ k, k < w.heap.size → w'.heap[k]? = w.heap[k]?) : Lk X key nu w' l bk mn mp cap n f := by
  obtain ⟨N, D, hm, h1, h2⟩ := h.num
  obtain ⟨qa, ho, hqa⟩ := h.obj
  exact ⟨⟨qa, (hb l (lt_of_heap ho)).trans ho, hqa⟩, h.qu.move (fun hn0 => hb bk (h.qu.bk_lt hn0)) (fun k hk => hb _ (h.qu.it_lt hk)), h.heap, h.item, h.nui, ⟨N, D, ownsMap_heap hm (hb mn (ownsMap_lt hm)), h1, h2⟩,
    h.pend.move (hb mp h.pend.lt), h.mm, h.cap⟩
theorem StO.mono {f' : Nat → Nat} {n' : Nat} (hm : ∀ k, k < n' → ∃ k', k' < n ∧ f' k = f k') (k : Nat) (h : StO sl s bk mv mk n' f' k) : StO sl s bk mv mk n f k := by
  rcases h with h | ⟨h0, h⟩ | h | h | ⟨i, hi, h⟩
  · exact .inl h
  · obtain ⟨k', hk', _⟩ := hm 0 h0
    exact .inr (.inl ⟨by omega, h⟩)
  · exact .inr (.inr (.inl h))
  · exact .inr (.inr (.inr (.inl h)))
  · obtain ⟨i', hi', e⟩ := hm i hi
    rw [e] at h
    exact .inr (.inr (.inr (.inr ⟨i', hi', h⟩)))
theorem LkO.mono {f' : Nat → Nat} {n' : Nat} (hm : ∀ k, k < n' → ∃ k', k' < n ∧ f' k = f k') (k : Nat) (h : LkO l bk mn mp n' f' k) : LkO l bk mn mp n f k := by
  rcases h with h | ⟨h0, h⟩ | h | h | ⟨i, hi, h⟩
  · exact .inl h
  · obtain ⟨k', hk', _⟩ := hm 0 h0
    exact .inr (.inl ⟨by omega, h⟩)
  · exact .inr (.inr (.inl h))
  · exact .inr (.inr (.inr (.inl h)))
  · obtain ⟨i', hi', e⟩ := hm i hi
    rw [e] at h
    exact .inr (.inr (.inr (.inr ⟨i', hi', h⟩)))
theorem Kept.below' {own : Nat → Prop} {a b c : World} (h : Kept own a b) (hB : Below b.heap.size b c) : Kept own a c :=
  h.trans (own' := fun _ => False) ⟨hB.os, hB.tape, hB.output, hB.size, fun k hk _ => hB.block k hk⟩ (fun _ _ h => h.elim)
end

/-- Where the store's expire stands. -/
structure SE (X : Nat → Array Value) (key ix sl sz : Nat → Nat) (w : World) (s bk mv mk cap n : Nat) (cp bys ch : Int) (f : Nat → Nat) (t : Nat) (wr : World) (n' : Nat) (bys' ch' : Int) (f' : Nat → Nat) : Prop where
  st : St X key ix sl sz wr s bk mv mk cap n' cp bys' ch' f'
  le : n' ≤ n
  bys : bys' = sumF sz f' n'
  ch : ch' = ch + ((n : Int) - n')
  sum : ∀ g, (∀ b, key b ≤ t → g b = 0) → sumF g f' n' = sumF g f n
  mem : ∀ k, k < n' → ∃ k', k' < n ∧ f' k = f k'
  kept : Kept (StO sl s bk mv mk n f) w wr
theorem sumF_le {g f : Nat → Nat} {c : Nat} : ∀ {n : Nat}, (∀ k, k < n → g (f k) ≤ c) → sumF g f n ≤ n * c
  | 0, _ => by simp [sumF]
  | n + 1, h => by
    have h1 := sumF_le (n := n) (g := g) (f := f) (c := c) (fun k hk => h k (by omega))
    have h2 := h n (by omega)
    rw [sumF, Nat.succ_mul]; omega
theorem neqp47 (w : World) : (binOp .neq 47 (.pointer none) (.pointer none)).run Yba.prog w = .ok (.bool false) w := by kernel_rfl
theorem neqs47 (b : Nat) (w : World) : (binOp .neq 47 (.pointer (some ⟨b, 0, none⟩)) (.pointer none)).run Yba.prog w = .ok (.bool true) w := by kernel_rfl

set_option maxRecDepth 20000 in
set_option maxHeartbeats 8000000 in
theorem sexpire (X : Nat → Array Value) (key ix sl sz f : Nat → Nat) (w : World) (s bk mv mk cap n t : Nat) (cp bys ch : Int) (h : St X key ix sl sz w s bk mv mk cap n cp bys ch f) (hby : bys = sumF sz f n) (hch : 0 ≤ ch ∧ ch < 10000) (hn : n ≤ 1024) (ht : t < 65536) :
    Calls Yba.prog 48 #[.pointer (some ⟨s, 0, none⟩), .agg #[.int .u64 t, .int .i64 0, .pointer none]] w fun e w' => e = .returned (.tuple #[]) ∧ ∃ n' bys' ch' f', SE X key ix sl sz w s bk mv mk cap n cp bys ch f t w' n' bys' ch' f' ∧ dv key f' n' t = none := by
  obtain ⟨z0, z1⟩ := hch
  obtain ⟨W, hW⟩ : ∃ W, W = w.alloc (.cells #[.int .u64 t, .int .i64 0, .pointer none] 28 (0, 0)) := ⟨_, rfl⟩
  have hB0 : Below w.heap.size w W := by rw [hW]; exact (Below.refl _ _).alloc (Nat.le_refl _) _
  have hbx : W.heap[w.heap.size]? = some (.cells #[.int .u64 t, .int .i64 0, .pointer none] 28 (0, 0)) := by rw [hW]; exact (MapKept.heap_alloc _ _).1
  have HS0 : Hid (SE X key ix sl sz w s bk mv mk cap n cp bys ch f t W n bys ch f) := ⟨h.keep hB0.block, Nat.le_refl _, hby, by omega, fun _ _ => rfl, fun k hk => ⟨k, hk, rfl⟩, (Kept.refl _ w).below' hB0⟩
  have Hbx : Hid (W.heap[w.heap.size]? = some (.cells #[.int .u64 t, .int .i64 0, .pointer none] 28 (0, 0))) := hbx
  obtain ⟨qa0, ho0, hqa0⟩ := h.obj
  have hsw : s < w.heap.size := lt_of_heap ho0
  -- the box is not the store's
  have Hnb : Hid (¬ StO sl s bk mv mk n f w.heap.size) := by
    show ¬ StO sl s bk mv mk n f w.heap.size
    obtain ⟨N, D, hm, _⟩ := h.val
    obtain ⟨N', D', hm', _⟩ := h.byk
    have h1 := ownsMap_lt hm
    have h2 := ownsMap_lt hm'
    rintro (e | ⟨h0, e⟩ | e | e | ⟨i, hi, e | e⟩)
    · omega
    · have := h.qu.bk_lt h0; omega
    · omega
    · omega
    · have := h.qu.it_lt hi; omega
    · have := lt_of_heap (h.sls i hi).1; omega
  have c4 : W.cell? ⟨s, 4, none⟩ = some (.slice qa0 n cap) := st_cell ((hB0.block s hsw).trans ho0) 4
  have y0 : W.cell? ⟨w.heap.size, 0, none⟩ = some (.int .u64 t) := by rw [cell_of_row _ _ 0 _ 28 (0, 0) hbx]; rfl
  have y1 : W.cell? ⟨w.heap.size, 1, none⟩ = some (.int .i64 0) := by rw [cell_of_row _ _ 1 _ 28 (0, 0) hbx]; rfl
  have y2 : W.cell? ⟨w.heap.size, 2, none⟩ = some (.pointer none) := by rw [cell_of_row _ _ 2 _ 28 (0, 0) hbx]; rfl
  have HD : Hid _ := dueS_any qa0 bk n cap t X key f W.drew (HS0.out.st.qu.move (fun _ => rfl) (fun _ _ => rfl)) (by omega) ht hqa0
  clear h hB0 hbx hby ho0 hqa0
  go_enter Yba.func48, Yba.ntmps48
  go_wp2
  rw [← hW]
  clear hW
  refine region_late (S := fun w' => w' = W.drew) (late := fun i => i == 5) (by kernel_rfl) ?_
  refine anyLate_takeW (i := 0) (v := .pointer (some ⟨s, 0, none⟩)) rfl (by kernel_rfl) (by kernel_rfl) (by kernel_rfl) (fun _ _ _ h => h) (.inl ⟨by kernel_rfl, fun w _ => by go_simp⟩) ?_
  simp only [Act.put, List.setIfInBounds_toArray, List.set_cons_zero, List.set_cons_succ]
  refine anyLate_takeW (i := 1) (v := .pointer (some ⟨s, 0, none⟩)) rfl (by kernel_rfl) (by kernel_rfl) (by kernel_rfl) (fun _ _ _ h => h) (.inl ⟨by kernel_rfl, fun w _ => by go_simp⟩) ?_
  simp only [Act.put, List.setIfInBounds_toArray, List.set_cons_zero, List.set_cons_succ]
  refine anyLate_takeW (i := 2) (v := .pointer (some ⟨s, 4, none⟩)) rfl (by kernel_rfl) (by kernel_rfl) (by kernel_rfl) (fun _ _ _ h => h) (.inl ⟨by kernel_rfl, fun w _ => by go_simp⟩) ?_
  simp only [Act.put, List.setIfInBounds_toArray, List.set_cons_zero, List.set_cons_succ]
  refine anyLate_take (i := 3) (v := .slice qa0 n cap) rfl (by kernel_rfl) (by kernel_rfl) (by kernel_rfl) (fun _ _ _ h => h) rfl (by kernel_rfl) (.inl ⟨by kernel_rfl, fun w hSw => by (subst hSw; go_simp)⟩) rfl ?_
  simp only [Act.put, List.setIfInBounds_toArray, List.set_cons_zero, List.set_cons_succ]
  refine anyLate_take (i := 4) (v := .agg #[.int .u64 t, .int .i64 0, .pointer none]) rfl (by kernel_rfl) (by kernel_rfl) (by kernel_rfl) (fun _ _ _ h => h) rfl (by kernel_rfl) (.inl ⟨by kernel_rfl, fun w hSw => by (subst hSw; go_simp)⟩) rfl ?_
  simp only [Act.put, List.setIfInBounds_toArray, List.set_cons_zero, List.set_cons_succ]
  refine anyLate_ready (rs := [5]) (by kernel_rfl) (by simp) ?_
  refine AllLate.cons rfl (fun K' hK' => ?_) AllLate.nil
  go_simp
  refine Calls.mono HD.out ?_
  rintro e W1 ⟨rfl, hB1⟩
  refine hK'.out _ _ (fun h => by simp at h) ?_
  clear hK' c4 y0 y1 y2 HD
  have hBd : Below W.heap.size W W1 := (Below.refl W.heap.size W).drew.trans hB1
  have HS1 : Hid (SE X key ix sl sz w s bk mv mk cap n cp bys ch f t W1 n bys ch f) := ⟨HS0.out.st.keep hBd.block, HS0.out.le, HS0.out.bys, HS0.out.ch, HS0.out.sum, HS0.out.mem, HS0.out.kept.below' hBd⟩
  have Hbx1 : Hid (W1.heap[w.heap.size]? = some (.cells #[.int .u64 t, .int .i64 0, .pointer none] 28 (0, 0))) := (hBd.block _ (lt_of_heap Hbx.out)).trans Hbx.out
  clear hB1 hBd HS0 Hbx
  try simp only [Act.put, List.setIfInBounds_toArray, List.set_cons_zero, List.set_cons_succ]
  refine anyLate_takeW (i := 6) (v := .pointer (dv key f n t)) rfl (by kernel_rfl) (by kernel_rfl) (by kernel_rfl) (fun _ _ _ h => h) (.inl ⟨by kernel_rfl, fun w _ => by go_simp⟩) ?_
  simp only [Act.put, List.setIfInBounds_toArray, List.set_cons_zero, List.set_cons_succ, List.getElem_toArray, List.getElem_cons_succ, List.getElem_cons_zero]
  refine anyLate_done (by kernel_rfl) ?_ _
  go_wp2
  go_loopw [4] (fun v wr => ∃ (n' : Nat) (bys' ch' : Int) (f' : Nat → Nat), v = .pointer (dv key f' n' t) ∧ Hid (SE X key ix sl sz w s bk mv mk cap n cp bys ch f t wr n' bys' ch' f') ∧ Hid (wr.heap[w.heap.size]? = some (.cells #[.int .u64 t, .int .i64 0, .pointer none] 28 (0, 0)))) (fun _ wr => lenAt wr s 4)
  case atStart => exact ⟨n, bys, ch, f, rfl, HS1, Hbx1⟩
  case round =>
    obtain ⟨n', bys', ch', f', rfl, HSr, Hbr⟩ := hrel
    cases hd : dv key f' n' t with
    | none =>
      have hnn := neqp47 wr
      have Hd : Hid (dv key f' n' t = none) := hd
      clear hd
      go_wp2
      go_end0
      exact ⟨rfl, n', bys', ch', f', HSr.out, Hd.out⟩
    | some a =>
      obtain ⟨m, rfl⟩ : ∃ m, n' = m + 1 := by
        cases n' with
        | zero => simp [dv] at hd
        | succ m => exact ⟨m, rfl⟩
      have hk : ¬ t < key (f' 0) := fun hlt => by simp [dv, hlt] at hd
      have ha : a = ⟨f' 0, 0, none⟩ := by simp [dv, hk] at hd; exact hd.symm
      subst ha
      have Hk : Hid (¬ t < key (f' 0)) := hk
      have hnn := neqs47 (f' 0) wr
      have hle := HSr.out.le
      have hb0 : 0 ≤ bys' ∧ bys' < 1000000 := by
        have h1 := HSr.out.bys
        have h2 := sumF_le (g := sz) (f := f') (c := 100) (n := m + 1) (fun k hk => by have := (HSr.out.st.item k hk).2.2; omega)
        omega
      have hc0 : 0 ≤ ch' ∧ ch' < 1000000 := by
        have := HSr.out.ch
        omega
      have HR : Hid _ := sremove X key ix sl sz f' wr s bk mv mk cap m cp bys' ch' HSr.out.st hb0 hc0
      clear hd hk hb0 hc0
      go_wp2_with (fail)
      refine Calls.mono HR.out ?_
      rintro e W2 ⟨rfl, f2, hS2, hsum2, hmem2, hK2⟩
      have HS2 : Hid (SE X key ix sl sz w s bk mv mk cap n cp bys ch f t W2 m (bys' - sz (f' 0)) (ch' + 1) f2) := by
        refine ⟨hS2, by omega, ?_, ?_, fun g hg => ?_, fun k hk => ?_, HSr.out.kept.trans hK2 (fun k _ h => StO.mono HSr.out.mem k h)⟩
        · have h1 := HSr.out.bys
          have h2 := hsum2 sz
          omega
        · have := HSr.out.ch
          omega
        · have h1 := HSr.out.sum g hg
          have h2 := hsum2 g
          have h3 := hg (f' 0) (by have := Hk.out; omega)
          omega
        · obtain ⟨k1, hk1, e1⟩ := hmem2 k hk
          obtain ⟨k2, hk2, e2⟩ := HSr.out.mem k1 hk1
          exact ⟨k2, hk2, e1.trans e2⟩
      have Hb2 : Hid (W2.heap[w.heap.size]? = some (.cells #[.int .u64 t, .int .i64 0, .pointer none] 28 (0, 0))) := (hK2.block _ (lt_of_heap Hbr.out) (fun h => Hnb.out (StO.mono HSr.out.mem _ h))).trans Hbr.out
      obtain ⟨qa2, ho2, hqa2⟩ := hS2.obj
      have c4 : W2.cell? ⟨s, 4, none⟩ = some (.slice qa2 m cap) := st_cell ho2 4
      have y0 : W2.cell? ⟨w.heap.size, 0, none⟩ = some (.int .u64 t) := by rw [cell_of_row _ _ 0 _ 28 (0, 0) Hb2.out]; rfl
      have y1 : W2.cell? ⟨w.heap.size, 1, none⟩ = some (.int .i64 0) := by rw [cell_of_row _ _ 1 _ 28 (0, 0) Hb2.out]; rfl
      have y2 : W2.cell? ⟨w.heap.size, 2, none⟩ = some (.pointer none) := by rw [cell_of_row _ _ 2 _ 28 (0, 0) Hb2.out]; rfl
      have HD : Hid _ := dueS_any qa2 bk m cap t X key f2 W2.drew (hS2.qu.move (fun _ => rfl) (fun _ _ => rfl)) (by omega) ht hqa2
      have hl1 : lenAt wr s 4 = m + 1 := by
        obtain ⟨qa, ho, _⟩ := HSr.out.st.obj
        have := st_cell ho 4
        simp [lenAt, this]
      have Hl1 : Hid _ := hl1
      clear hS2 hsum2 hmem2 hK2 HR hl1 ho2 hqa2
      go_wp2
      refine region_late (S := fun w' => w' = W2.drew) (late := fun i => i == 5) (by kernel_rfl) ?_
      refine anyLate_takeW (i := 0) (v := .pointer (some ⟨s, 0, none⟩)) rfl (by kernel_rfl) (by kernel_rfl) (by kernel_rfl) (fun _ _ _ h => h) (.inl ⟨by kernel_rfl, fun w _ => by go_simp⟩) ?_
      simp only [Act.put, List.setIfInBounds_toArray, List.set_cons_zero, List.set_cons_succ]
      refine anyLate_takeW (i := 1) (v := .pointer (some ⟨s, 0, none⟩)) rfl (by kernel_rfl) (by kernel_rfl) (by kernel_rfl) (fun _ _ _ h => h) (.inl ⟨by kernel_rfl, fun w _ => by go_simp⟩) ?_
      simp only [Act.put, List.setIfInBounds_toArray, List.set_cons_zero, List.set_cons_succ]
      refine anyLate_takeW (i := 2) (v := .pointer (some ⟨s, 4, none⟩)) rfl (by kernel_rfl) (by kernel_rfl) (by kernel_rfl) (fun _ _ _ h => h) (.inl ⟨by kernel_rfl, fun w _ => by go_simp⟩) ?_
      simp only [Act.put, List.setIfInBounds_toArray, List.set_cons_zero, List.set_cons_succ]
      refine anyLate_take (i := 3) (v := .slice qa2 m cap) rfl (by kernel_rfl) (by kernel_rfl) (by kernel_rfl) (fun _ _ _ h => h) rfl (by kernel_rfl) (.inl ⟨by kernel_rfl, fun w hSw => by (subst hSw; go_simp)⟩) rfl ?_
      simp only [Act.put, List.setIfInBounds_toArray, List.set_cons_zero, List.set_cons_succ]
      refine anyLate_take (i := 4) (v := .agg #[.int .u64 t, .int .i64 0, .pointer none]) rfl (by kernel_rfl) (by kernel_rfl) (by kernel_rfl) (fun _ _ _ h => h) rfl (by kernel_rfl) (.inl ⟨by kernel_rfl, fun w hSw => by (subst hSw; go_simp)⟩) rfl ?_
      simp only [Act.put, List.setIfInBounds_toArray, List.set_cons_zero, List.set_cons_succ]
      refine anyLate_ready (rs := [5]) (by kernel_rfl) (by simp) ?_
      refine AllLate.cons rfl (fun K' hK' => ?_) AllLate.nil
      go_simp
      refine Calls.mono HD.out ?_
      rintro e W3 ⟨rfl, hB3⟩
      refine hK'.out _ _ (fun h => by simp at h) ?_
      clear hK' c4 y0 y1 y2 HD
      have hBd : Below W2.heap.size W2 W3 := (Below.refl W2.heap.size W2).drew.trans hB3
      have HS3 : Hid (SE X key ix sl sz w s bk mv mk cap n cp bys ch f t W3 m (bys' - sz (f' 0)) (ch' + 1) f2) := ⟨HS2.out.st.keep hBd.block, HS2.out.le, HS2.out.bys, HS2.out.ch, HS2.out.sum, HS2.out.mem, HS2.out.kept.below' hBd⟩
      have Hbx3 : Hid (W3.heap[w.heap.size]? = some (.cells #[.int .u64 t, .int .i64 0, .pointer none] 28 (0, 0))) := (hBd.block _ (lt_of_heap Hb2.out)).trans Hb2.out
      have Hl3 : Hid (lenAt W3 s 4 = m) := by
        show lenAt W3 s 4 = m
        obtain ⟨qa, ho, _⟩ := HS3.out.st.obj
        have := st_cell ho 4
        simp [lenAt, this]
      clear hB3 hBd HS2 Hb2
      try simp only [Act.put, List.setIfInBounds_toArray, List.set_cons_zero, List.set_cons_succ]
      refine anyLate_takeW (i := 6) (v := .pointer (dv key f2 m t)) rfl (by kernel_rfl) (by kernel_rfl) (by kernel_rfl) (fun _ _ _ h => h) (.inl ⟨by kernel_rfl, fun w _ => by go_simp⟩) ?_
      simp only [Act.put, List.setIfInBounds_toArray, List.set_cons_zero, List.set_cons_succ, List.getElem_toArray, List.getElem_cons_succ, List.getElem_cons_zero]
      refine anyLate_done (by kernel_rfl) ?_ _
      go_wp2
      go_roundw
      case rel => exact ⟨m, bys' - sz (f' 0), ch' + 1, f2, rfl, HS3, Hbx3⟩
      case measure => rw [Hl3.out, Hl1.out]; omega

/-- Where the lookups' expire stands. -/
structure LE' (X : Nat → Array Value) (key nu : Nat → Nat) (w : World) (l bk mn mp cap n : Nat) (f : Nat → Nat) (t : Nat) (wr : World) (n' : Nat) (f' : Nat → Nat) : Prop where
  st : Lk X key nu wr l bk mn mp cap n' f'
  le : n' ≤ n
  sum : ∀ g, (∀ b, key b ≤ t → g b = 0) → sumF g f' n' = sumF g f n
  mem : ∀ k, k < n' → ∃ k', k' < n ∧ f' k = f k'
  kept : Kept (LkO l bk mn mp n f) w wr
theorem neqp56 (w : World) : (binOp .neq 56 (.pointer none) (.pointer none)).run Yba.prog w = .ok (.bool false) w := by kernel_rfl
theorem neqs56 (b : Nat) (w : World) : (binOp .neq 56 (.pointer (some ⟨b, 0, none⟩)) (.pointer none)).run Yba.prog w = .ok (.bool true) w := by kernel_rfl

set_option maxRecDepth 20000 in
set_option maxHeartbeats 8000000 in
theorem lexpire (X : Nat → Array Value) (key nu f : Nat → Nat) (w : World) (l bk mn mp cap n t : Nat) (h : Lk X key nu w l bk mn mp cap n f) (hn : n ≤ 1024) (ht : t < 65536) :
    Calls Yba.prog 49 #[.pointer (some ⟨l, 0, none⟩), .agg #[.int .u64 t, .int .i64 0, .pointer none]] w fun e w' => e = .returned (.tuple #[]) ∧ ∃ n' f', LE' X key nu w l bk mn mp cap n f t w' n' f' ∧ dv key f' n' t = none := by
  obtain ⟨W, hW⟩ : ∃ W, W = w.alloc (.cells #[.int .u64 t, .int .i64 0, .pointer none] 28 (0, 0)) := ⟨_, rfl⟩
  have hB0 : Below w.heap.size w W := by rw [hW]; exact (Below.refl _ _).alloc (Nat.le_refl _) _
  have hbx : W.heap[w.heap.size]? = some (.cells #[.int .u64 t, .int .i64 0, .pointer none] 28 (0, 0)) := by rw [hW]; exact (MapKept.heap_alloc _ _).1
  have HS0 : Hid (LE' X key nu w l bk mn mp cap n f t W n f) := ⟨h.keep hB0.block, Nat.le_refl _, fun _ _ => rfl, fun k hk => ⟨k, hk, rfl⟩, (Kept.refl _ w).below' hB0⟩
  have Hbx : Hid (W.heap[w.heap.size]? = some (.cells #[.int .u64 t, .int .i64 0, .pointer none] 28 (0, 0))) := hbx
  obtain ⟨qa0, ho0, hqa0⟩ := h.obj
  have hsw : l < w.heap.size := lt_of_heap ho0
  -- the box is not the lookups'
  have Hnb : Hid (¬ LkO l bk mn mp n f w.heap.size) := by
    show ¬ LkO l bk mn mp n f w.heap.size
    obtain ⟨N, D, hm, _⟩ := h.num
    have h1 := ownsMap_lt hm
    have h2 := h.pend.lt
    rintro (e | ⟨h0, e⟩ | e | e | ⟨i, hi, e⟩)
    · omega
    · have := h.qu.bk_lt h0; omega
    · omega
    · omega
    · have := h.qu.it_lt hi; omega
  have c4 : W.cell? ⟨l, 1, none⟩ = some (.slice qa0 n cap) := lk_cell ((hB0.block l hsw).trans ho0) 1
  have y0 : W.cell? ⟨w.heap.size, 0, none⟩ = some (.int .u64 t) := by rw [cell_of_row _ _ 0 _ 28 (0, 0) hbx]; rfl
  have y1 : W.cell? ⟨w.heap.size, 1, none⟩ = some (.int .i64 0) := by rw [cell_of_row _ _ 1 _ 28 (0, 0) hbx]; rfl
  have y2 : W.cell? ⟨w.heap.size, 2, none⟩ = some (.pointer none) := by rw [cell_of_row _ _ 2 _ 28 (0, 0) hbx]; rfl
  have HD : Hid _ := dueQ_any qa0 bk n cap t X key f W.drew (HS0.out.st.qu.move (fun _ => rfl) (fun _ _ => rfl)) (by omega) ht hqa0
  clear h hB0 hbx ho0 hqa0
  go_enter Yba.func49, Yba.ntmps49
  go_wp2
  rw [← hW]
  clear hW
  refine region_late (S := fun w' => w' = W.drew) (late := fun i => i == 5) (by kernel_rfl) ?_
  refine anyLate_takeW (i := 0) (v := .pointer (some ⟨l, 0, none⟩)) rfl (by kernel_rfl) (by kernel_rfl) (by kernel_rfl) (fun _ _ _ h => h) (.inl ⟨by kernel_rfl, fun w _ => by go_simp⟩) ?_
  simp only [Act.put, List.setIfInBounds_toArray, List.set_cons_zero, List.set_cons_succ]
  refine anyLate_takeW (i := 1) (v := .pointer (some ⟨l, 0, none⟩)) rfl (by kernel_rfl) (by kernel_rfl) (by kernel_rfl) (fun _ _ _ h => h) (.inl ⟨by kernel_rfl, fun w _ => by go_simp⟩) ?_
  simp only [Act.put, List.setIfInBounds_toArray, List.set_cons_zero, List.set_cons_succ]
  refine anyLate_takeW (i := 2) (v := .pointer (some ⟨l, 1, none⟩)) rfl (by kernel_rfl) (by kernel_rfl) (by kernel_rfl) (fun _ _ _ h => h) (.inl ⟨by kernel_rfl, fun w _ => by go_simp⟩) ?_
  simp only [Act.put, List.setIfInBounds_toArray, List.set_cons_zero, List.set_cons_succ]
  refine anyLate_take (i := 3) (v := .slice qa0 n cap) rfl (by kernel_rfl) (by kernel_rfl) (by kernel_rfl) (fun _ _ _ h => h) rfl (by kernel_rfl) (.inl ⟨by kernel_rfl, fun w hSw => by (subst hSw; go_simp)⟩) rfl ?_
  simp only [Act.put, List.setIfInBounds_toArray, List.set_cons_zero, List.set_cons_succ]
  refine anyLate_take (i := 4) (v := .agg #[.int .u64 t, .int .i64 0, .pointer none]) rfl (by kernel_rfl) (by kernel_rfl) (by kernel_rfl) (fun _ _ _ h => h) rfl (by kernel_rfl) (.inl ⟨by kernel_rfl, fun w hSw => by (subst hSw; go_simp)⟩) rfl ?_
  simp only [Act.put, List.setIfInBounds_toArray, List.set_cons_zero, List.set_cons_succ]
  refine anyLate_ready (rs := [5]) (by kernel_rfl) (by simp) ?_
  refine AllLate.cons rfl (fun K' hK' => ?_) AllLate.nil
  go_simp
  refine Calls.mono HD.out ?_
  rintro e W1 ⟨rfl, hB1⟩
  refine hK'.out _ _ (fun h => by simp at h) ?_
  clear hK' c4 y0 y1 y2 HD
  have hBd : Below W.heap.size W W1 := (Below.refl W.heap.size W).drew.trans hB1
  have HS1 : Hid (LE' X key nu w l bk mn mp cap n f t W1 n f) := ⟨HS0.out.st.keep hBd.block, HS0.out.le, HS0.out.sum, HS0.out.mem, HS0.out.kept.below' hBd⟩
  have Hbx1 : Hid (W1.heap[w.heap.size]? = some (.cells #[.int .u64 t, .int .i64 0, .pointer none] 28 (0, 0))) := (hBd.block _ (lt_of_heap Hbx.out)).trans Hbx.out
  clear hB1 hBd HS0 Hbx
  try simp only [Act.put, List.setIfInBounds_toArray, List.set_cons_zero, List.set_cons_succ]
  refine anyLate_takeW (i := 6) (v := .pointer (dv key f n t)) rfl (by kernel_rfl) (by kernel_rfl) (by kernel_rfl) (fun _ _ _ h => h) (.inl ⟨by kernel_rfl, fun w _ => by go_simp⟩) ?_
  simp only [Act.put, List.setIfInBounds_toArray, List.set_cons_zero, List.set_cons_succ, List.getElem_toArray, List.getElem_cons_succ, List.getElem_cons_zero]
  refine anyLate_done (by kernel_rfl) ?_ _
  go_wp2
  go_loopw [4] (fun v wr => ∃ (n' : Nat) (f' : Nat → Nat), v = .pointer (dv key f' n' t) ∧ Hid (LE' X key nu w l bk mn mp cap n f t wr n' f') ∧ Hid (wr.heap[w.heap.size]? = some (.cells #[.int .u64 t, .int .i64 0, .pointer none] 28 (0, 0)))) (fun _ wr => lenAt wr l 1)
  case atStart => exact ⟨n, f, rfl, HS1, Hbx1⟩
  case round =>
    obtain ⟨n', f', rfl, HSr, Hbr⟩ := hrel
    cases hd : dv key f' n' t with
    | none =>
      have hnn := neqp56 wr
      have Hd : Hid (dv key f' n' t = none) := hd
      clear hd
      go_wp2
      go_end0
      exact ⟨rfl, n', f', HSr.out, Hd.out⟩
    | some a =>
      obtain ⟨m, rfl⟩ : ∃ m, n' = m + 1 := by
        cases n' with
        | zero => simp [dv] at hd
        | succ m => exact ⟨m, rfl⟩
      have hk : ¬ t < key (f' 0) := fun hlt => by simp [dv, hlt] at hd
      have ha : a = ⟨f' 0, 0, none⟩ := by simp [dv, hk] at hd; exact hd.symm
      subst ha
      have Hk : Hid (¬ t < key (f' 0)) := hk
      have hnn := neqs56 (f' 0) wr
      have hle := HSr.out.le
      have HR : Hid _ := forget X key nu f' wr l bk mn mp cap m HSr.out.st
      clear hd hk
      go_wp2_with (fail)
      refine Calls.mono HR.out ?_
      rintro e W2 ⟨rfl, f2, hS2, hsum2, hmem2, hK2⟩
      have HS2 : Hid (LE' X key nu w l bk mn mp cap n f t W2 m f2) := by
        refine ⟨hS2, by omega, fun g hg => ?_, fun k hk => ?_, HSr.out.kept.trans hK2 (fun k _ h => LkO.mono HSr.out.mem k h)⟩
        · have h1 := HSr.out.sum g hg
          have h2 := hsum2 g
          have h3 := hg (f' 0) (by have := Hk.out; omega)
          omega
        · obtain ⟨k1, hk1, e1⟩ := hmem2 k hk
          obtain ⟨k2, hk2, e2⟩ := HSr.out.mem k1 hk1
          exact ⟨k2, hk2, e1.trans e2⟩
      have Hb2 : Hid (W2.heap[w.heap.size]? = some (.cells #[.int .u64 t, .int .i64 0, .pointer none] 28 (0, 0))) := (hK2.block _ (lt_of_heap Hbr.out) (fun h => Hnb.out (LkO.mono HSr.out.mem _ h))).trans Hbr.out
      obtain ⟨qa2, ho2, hqa2⟩ := hS2.obj
      have c4 : W2.cell? ⟨l, 1, none⟩ = some (.slice qa2 m cap) := lk_cell ho2 1
      have y0 : W2.cell? ⟨w.heap.size, 0, none⟩ = some (.int .u64 t) := by rw [cell_of_row _ _ 0 _ 28 (0, 0) Hb2.out]; rfl
      have y1 : W2.cell? ⟨w.heap.size, 1, none⟩ = some (.int .i64 0) := by rw [cell_of_row _ _ 1 _ 28 (0, 0) Hb2.out]; rfl
      have y2 : W2.cell? ⟨w.heap.size, 2, none⟩ = some (.pointer none) := by rw [cell_of_row _ _ 2 _ 28 (0, 0) Hb2.out]; rfl
      have HD : Hid _ := dueQ_any qa2 bk m cap t X key f2 W2.drew (hS2.qu.move (fun _ => rfl) (fun _ _ => rfl)) (by omega) ht hqa2
      have hl1 : lenAt wr l 1 = m + 1 := by
        obtain ⟨qa, ho, _⟩ := HSr.out.st.obj
        have := lk_cell ho 1
        simp [lenAt, this]
      have Hl1 : Hid _ := hl1
      clear hS2 hsum2 hmem2 hK2 HR hl1 ho2 hqa2
      go_wp2
      refine region_late (S := fun w' => w' = W2.drew) (late := fun i => i == 5) (by kernel_rfl) ?_
      refine anyLate_takeW (i := 0) (v := .pointer (some ⟨l, 0, none⟩)) rfl (by kernel_rfl) (by kernel_rfl) (by kernel_rfl) (fun _ _ _ h => h) (.inl ⟨by kernel_rfl, fun w _ => by go_simp⟩) ?_
      simp only [Act.put, List.setIfInBounds_toArray, List.set_cons_zero, List.set_cons_succ]
      refine anyLate_takeW (i := 1) (v := .pointer (some ⟨l, 0, none⟩)) rfl (by kernel_rfl) (by kernel_rfl) (by kernel_rfl) (fun _ _ _ h => h) (.inl ⟨by kernel_rfl, fun w _ => by go_simp⟩) ?_
      simp only [Act.put, List.setIfInBounds_toArray, List.set_cons_zero, List.set_cons_succ]
      refine anyLate_takeW (i := 2) (v := .pointer (some ⟨l, 1, none⟩)) rfl (by kernel_rfl) (by kernel_rfl) (by kernel_rfl) (fun _ _ _ h => h) (.inl ⟨by kernel_rfl, fun w _ => by go_simp⟩) ?_
      simp only [Act.put, List.setIfInBounds_toArray, List.set_cons_zero, List.set_cons_succ]
      refine anyLate_take (i := 3) (v := .slice qa2 m cap) rfl (by kernel_rfl) (by kernel_rfl) (by kernel_rfl) (fun _ _ _ h => h) rfl (by kernel_rfl) (.inl ⟨by kernel_rfl, fun w hSw => by (subst hSw; go_simp)⟩) rfl ?_
      simp only [Act.put, List.setIfInBounds_toArray, List.set_cons_zero, List.set_cons_succ]
      refine anyLate_take (i := 4) (v := .agg #[.int .u64 t, .int .i64 0, .pointer none]) rfl (by kernel_rfl) (by kernel_rfl) (by kernel_rfl) (fun _ _ _ h => h) rfl (by kernel_rfl) (.inl ⟨by kernel_rfl, fun w hSw => by (subst hSw; go_simp)⟩) rfl ?_
      simp only [Act.put, List.setIfInBounds_toArray, List.set_cons_zero, List.set_cons_succ]
      refine anyLate_ready (rs := [5]) (by kernel_rfl) (by simp) ?_
      refine AllLate.cons rfl (fun K' hK' => ?_) AllLate.nil
      go_simp
      refine Calls.mono HD.out ?_
      rintro e W3 ⟨rfl, hB3⟩
      refine hK'.out _ _ (fun h => by simp at h) ?_
      clear hK' c4 y0 y1 y2 HD
      have hBd : Below W2.heap.size W2 W3 := (Below.refl W2.heap.size W2).drew.trans hB3
      have HS3 : Hid (LE' X key nu w l bk mn mp cap n f t W3 m f2) := ⟨HS2.out.st.keep hBd.block, HS2.out.le, HS2.out.sum, HS2.out.mem, HS2.out.kept.below' hBd⟩
      have Hbx3 : Hid (W3.heap[w.heap.size]? = some (.cells #[.int .u64 t, .int .i64 0, .pointer none] 28 (0, 0))) := (hBd.block _ (lt_of_heap Hb2.out)).trans Hb2.out
      have Hl3 : Hid (lenAt W3 l 1 = m) := by
        show lenAt W3 l 1 = m
        obtain ⟨qa, ho, _⟩ := HS3.out.st.obj
        have := lk_cell ho 1
        simp [lenAt, this]
      clear hB3 hBd HS2 Hb2
      try simp only [Act.put, List.setIfInBounds_toArray, List.set_cons_zero, List.set_cons_succ]
      refine anyLate_takeW (i := 6) (v := .pointer (dv key f2 m t)) rfl (by kernel_rfl) (by kernel_rfl) (by kernel_rfl) (fun _ _ _ h => h) (.inl ⟨by kernel_rfl, fun w _ => by go_simp⟩) ?_
      simp only [Act.put, List.setIfInBounds_toArray, List.set_cons_zero, List.set_cons_succ, List.getElem_toArray, List.getElem_cons_succ, List.getElem_cons_zero]
      refine anyLate_done (by kernel_rfl) ?_ _
      go_wp2
      go_roundw
      case rel => exact ⟨m, f2, rfl, HS3, Hbx3⟩
      case measure => rw [Hl3.out, Hl1.out]; omega
end Go.Proofs.Ybulkamjs
