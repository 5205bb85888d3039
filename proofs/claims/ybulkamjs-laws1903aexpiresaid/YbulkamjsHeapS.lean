/- container/heap over a timedQueue (made by a small program for each of the two element types): down from the root, and Remove of the root. -/
import Derived.Test.YbulkamjsMethS
import Derived.Deep.CutRange
import Derived.Deep.CutBlock
namespace Go.Proofs.Ybulkamjs
open Go.RowKit Go.Maps Go.WideMaps
set_option linter.unusedSimpArgs false
set_option linter.unusedVariables false

theorem chk193 (p : Addr) (nm : String) (w : World) : (Builtin.ssaWrapNilChk_ #[193] 193 #[.pointer (some p), strVal "", strVal nm]).run Yba.prog w = .ok (.pointer (some p)) w := by kernel_rfl
theorem mLenS {s o : Nat} {w : World} {v : Value} (h : w.cell? ⟨s, o, none⟩ = some v) : (method 353 193 (.pointer (some ⟨s, o, none⟩)) "Len").run Yba.prog w = .ok (107, v) w :=
  meth_val Yba.typeInfo193 Yba.underlying193 (by kernel_rfl) (chk193 _) (by go_simp)
theorem mLessS {s o : Nat} {w : World} {v : Value} (h : w.cell? ⟨s, o, none⟩ = some v) : (method 353 193 (.pointer (some ⟨s, o, none⟩)) "Less").run Yba.prog w = .ok (108, v) w :=
  meth_val Yba.typeInfo193 Yba.underlying193 (by kernel_rfl) (chk193 _) (by go_simp)
theorem mSwapS {s o : Nat} {w : World} {v : Value} (h : w.cell? ⟨s, o, none⟩ = some v) : (method 353 193 (.pointer (some ⟨s, o, none⟩)) "Swap").run Yba.prog w = .ok (109, v) w :=
  meth_val Yba.typeInfo193 Yba.underlying193 (by kernel_rfl) (chk193 _) (by go_simp)
theorem mPopS (s o : Nat) (w : World) : (method 353 193 (.pointer (some ⟨s, o, none⟩)) "Pop").run Yba.prog w = .ok (129, .pointer (some ⟨s, o, none⟩)) w := by kernel_rfl

/-- What down leaves: another order of the first n. -/
structure DnS (X : Nat → Array Value) (key : Nat → Nat) (w : World) (qb qo bk N n cap : Nat) (f : Nat → Nat) (wr : World) (f' : Nat → Nat) : Prop where
  qu : Qu 47 53 134 X key wr bk N f'
  cell : wr.cell? ⟨qb, qo, none⟩ = some (.slice (some ⟨bk, 0, none⟩) N cap)
  rest : ∀ k, n ≤ k → f' k = f k
  sum : ∀ g, sumF g f' n = sumF g f n
  mem : ∀ k, k < n → ∃ k', k' < n ∧ f' k = f k'
  kept : Kept (fun k => k = bk ∨ ∃ i, i < n ∧ k = f i) w wr
theorem DnS.below {X : Nat → Array Value} {key : Nat → Nat} {w : World} {qb qo bk N n cap : Nat} {f f' : Nat → Nat} {wr w' : World} (h : DnS X key w qb qo bk N n cap f wr f') (hB : Below wr.heap.size wr w') : DnS X key w qb qo bk N n cap f w' f' :=
  ⟨h.qu.below hB, bcell hB h.cell, h.rest, h.sum, h.mem, h.kept.trans (own' := fun _ => False) ⟨hB.os, hB.tape, hB.output, hB.size, fun k hk _ => hB.block k hk⟩ (fun _ _ h => h.elim)⟩
theorem DnS.swap {X : Nat → Array Value} {key : Nat → Nat} {w : World} {qb qo bk N n cap : Nat} {f f' : Nat → Nat} {wr w' : World} (h : DnS X key w qb qo bk N n cap f wr f') {i j : Nat} (hi : i < n) (hj : j < n) (hN : n ≤ N) (hq : qb ≠ bk) (hqf : ∀ k, k < N → f k ≠ qb)
    (hQ : Qu 47 53 134 X key w' bk N (sw f' i j)) (hK : Kept (fun k => k = bk ∨ k = f' i ∨ k = f' j) wr w') : DnS X key w qb qo bk N n cap f w' (sw f' i j) := by
  obtain ⟨i', hi', ei⟩ := h.mem i hi
  obtain ⟨j', hj', ej⟩ := h.mem j hj
  refine ⟨hQ, ?_, fun k hk => ?_, fun g => ?_, fun k hk => ?_, ?_⟩
  · have hlt := cell_lt h.cell
    have : w'.heap[qb]? = wr.heap[qb]? := hK.block qb hlt (fun e => e.elim hq (fun e => e.elim (fun e => hqf i' (by omega) (e.trans ei).symm) (fun e => hqf j' (by omega) (e.trans ej).symm)))
    rw [← h.cell]
    simp only [World.cell?, this]
  · rw [sw_o f' (by omega) (by omega)]; exact h.rest k hk
  · rw [sumF_sw hi hj]; exact h.sum g
  · obtain ⟨k1, hk1, e1⟩ := sw_in f' hi hj k hk
    obtain ⟨k2, hk2, e2⟩ := h.mem k1 hk1
    exact ⟨k2, hk2, e1.trans e2⟩
  · exact h.kept.trans hK (fun k _ e => e.elim .inl (fun e => .inr (e.elim (fun e => ⟨i', hi', e.trans ei⟩) (fun e => ⟨j', hj', e.trans ej⟩))))

set_option maxRecDepth 20000 in
set_option maxHeartbeats 4000000 in
theorem downS (qb qo bk N n cap : Nat) (X : Nat → Array Value) (key f : Nat → Nat) (w : World) (hQ : Qu 47 53 134 X key w bk N f) (hc : w.cell? ⟨qb, qo, none⟩ = some (.slice (some ⟨bk, 0, none⟩) N cap)) (hN : N < 100000) (hn : n ≤ N) (hq : qb ≠ bk) (hqf : ∀ k, k < N → f k ≠ qb) (hH : Hole key f n 0) :
    Calls Yba.prog 85 #[.iface 193 (.pointer (some ⟨qb, qo, none⟩)), .int .i64 0, .int .i64 n] w fun e w' => ∃ r f', e = .returned (.bool r) ∧ DnS X key w qb qo bk N n cap f w' f' ∧ HeapO key f' n := by
  have HD : Hid (DnS X key w qb qo bk N n cap f w f) := ⟨hQ, hc, fun _ _ => rfl, fun _ => rfl, fun k hk => ⟨k, hk, rfl⟩, Kept.refl _ _⟩
  have HH : Hid (Hole key f n 0) := hH
  have Hqf : Hid (∀ k, k < N → f k ≠ qb) := hqf
  clear hQ hc hqf hH
  go_enter Yba.func85, Yba.ntmps85
  go_wp2
  go_loopw [7] (fun i wr => ∃ (j : Nat) (f' : Nat → Nat), i = .int .i64 j ∧ j < n + 1 ∧ Hid (DnS X key w qb qo bk N n cap f wr f') ∧ Hid (Hole key f' n j)) (fun i _ => n + 1 - (intOf i).toNat)
  case atStart => exact ⟨0, f, rfl, by omega, HD, HH⟩
  case round =>
    obtain ⟨j, f', rfl, hj, HDr, HHr⟩ := hrel
    clear HD HH
    by_cases h1 : n ≤ 2 * j + 1
    · have g1 : (n : Int) ≤ 2 * (j : Int) + 1 := by omega
      go_wp2
      go_ret
      exact ⟨_, f', rfl, HDr.out, HHr.out.leaf h1⟩
    · have g1 : ¬ (n : Int) ≤ 2 * (j : Int) + 1 := by omega
      have g0 : ¬ 2 * (j : Int) + 1 < 0 := by omega
      obtain ⟨b2, hb2⟩ : ∃ b : Bool, b = (decide (2 * j + 1 + 1 < n) && decide (key (f' (2 * j + 1 + 1)) < key (f' (2 * j + 1)))) := ⟨_, rfl⟩
      have Hb2 : Hid (b2 = (decide (2 * j + 1 + 1 < n) && decide (key (f' (2 * j + 1 + 1)) < key (f' (2 * j + 1))))) := hb2
      clear hb2
      obtain ⟨ww, hww⟩ : ∃ ww : World, ww = wr := ⟨_, rfl⟩
      subst hww
      go_upto_region 6 with (fail)
      go_cut [33] from 25 to 32 (fun s wx => s = .bool b2 ∧ Hid (Below ww.heap.size ww wx))
      case first =>
        by_cases h2 : 2 * j + 1 + 1 < n
        · have g2 : 2 * (j : Int) + 1 + 1 < (n : Int) := by omega
          have hm := mLessS HDr.out.cell
          have HL : Hid _ := lessS bk N cap (2 * j + 1 + 1) (2 * j + 1) X key f' ww HDr.out.qu (by omega) (by omega) hN
          have e2 : decide (2 * j + 1 + 1 < n) = true := decide_eq_true h2
          rw [e2, Bool.true_and] at Hb2
          rw [← Hb2.out] at HL
          clear e2
          go_wp2_with (go_at_call 108; refine Calls.mono HL.out ?_; rintro e w1 ⟨rfl, hB1⟩; have HB1 : Hid (Below ww.heap.size ww w1) := hB1; clear hB1)
          go_meet
          exact ⟨rfl, HB1⟩
        · have g2 : ¬ 2 * (j : Int) + 1 + 1 < (n : Int) := by omega
          have e2 : decide (2 * j + 1 + 1 < n) = false := decide_eq_false h2
          rw [e2, Bool.false_and] at Hb2
          have e3 : b2 = false := Hb2.out
          clear e2
          subst e3
          go_wp2
          go_meet
          exact ⟨rfl, Below.refl _ _⟩
      case rest =>
        obtain ⟨rfl, HB1⟩ := hcut
        obtain ⟨wd, hwd⟩ : ∃ wd : World, wd = wc := ⟨_, rfl⟩
        subst hwd
        have HDc : Hid (DnS X key w qb qo bk N n cap f wd f') := HDr.out.below HB1.out
        clear HDr HB1
        obtain ⟨m, hm⟩ : ∃ m : Nat, m = if b2 = true then 2 * j + 1 + 1 else 2 * j + 1 := ⟨_, rfl⟩
        have hmn : m < n ∧ (m - 1) / 2 = j ∧ 0 < m := by
          cases hb : b2 with
          | true =>
            have h3 := Hb2.out
            rw [hb] at h3 hm
            simp only [if_true] at hm
            simp at h3
            omega
          | false => rw [hb] at hm; simp at hm; omega
        have Hmin : Hid (∀ c, 0 < c → c < n → (c - 1) / 2 = j → key (f' m) ≤ key (f' c)) := by
          show ∀ c, 0 < c → c < n → (c - 1) / 2 = j → key (f' m) ≤ key (f' c)
          intro c h0 hc hp
          have hc2 : c = 2 * j + 1 ∨ c = 2 * j + 1 + 1 := by omega
          cases hb : b2 with
          | true =>
            have h3 := Hb2.out
            rw [hb] at h3 hm
            simp only [if_true] at hm
            simp at h3
            rcases hc2 with e | e
            · rw [hm, e]; omega
            · rw [hm, e]; exact Nat.le_refl _
          | false =>
            have h3 := Hb2.out
            rw [hb] at h3 hm
            simp at h3 hm
            rcases hc2 with e | e
            · rw [hm, e]; exact Nat.le_refl _
            · have := h3 (by omega)
              rw [hm, e]; exact this
        have Hm : Hid (m = if b2 = true then 2 * j + 1 + 1 else 2 * j + 1) := hm
        clear hm Hb2
        go_upto_if 33 with (fail)
        go_cut [9] from 34 to 34 (fun s wx => s = .int .i64 m ∧ wx = wd)
        case first =>
          cases hb : b2 with
          | true =>
            have e : m = 2 * j + 1 + 1 := by rw [Hm.out, hb]; rfl
            subst hb
            go_wp2
            go_meet
            exact ⟨by rw [e]; rfl, rfl⟩
          | false =>
            have e : m = 2 * j + 1 := by rw [Hm.out, hb]; rfl
            subst hb
            go_wp2
            go_meet
            exact ⟨by rw [e]; rfl, rfl⟩
        case rest =>
          obtain ⟨rfl, rfl⟩ := hcut
          obtain ⟨we, hwe⟩ : ∃ we : World, we = wc := ⟨_, rfl⟩
          subst hwe
          obtain ⟨hm1, hm2, hm3⟩ := hmn
          have hjn : j < n := by omega
          have hme := mLessS HDc.out.cell
          have HL : Hid _ := lessS bk N cap m j X key f' we HDc.out.qu (by omega) (by omega) hN
          by_cases hk : key (f' m) < key (f' j)
          · rw [decide_eq_true hk] at HL
            have Hk : Hid _ := hk
            clear hk
            go_wp2_with (first | (go_at_call 108; refine Calls.mono HL.out ?_; rintro e w1 ⟨rfl, hB1⟩; have HB1 : Hid (Below we.heap.size we w1) := hB1; have hms := mSwapS (bcell hB1 HDc.out.cell); clear hB1) | fail)
            have HDe : Hid (DnS X key w qb qo bk N n cap f w1 f') := HDc.out.below HB1.out
            refine Calls.mono (swapS bk N cap j m X key f' w1 HDe.out.qu (by omega) (by omega) (by omega) hN) ?_
            rintro e w2 ⟨rfl, hQ2, hK2⟩
            have HD2 : Hid (DnS X key w qb qo bk N n cap f w2 (sw f' j m)) := HDe.out.swap hjn hm1 hn hq Hqf.out hQ2 hK2
            clear hQ2 hK2 hms hme
            go_wp2
            go_roundw
            case rel => exact ⟨m, sw f' j m, rfl, by omega, HD2, HHr.out.step Hmin.out Hk.out hm1 hm2 hm3⟩
            case measure => simp [intOf]; omega
          · rw [decide_eq_false hk] at HL
            have Hk : Hid _ := hk
            clear hk
            go_wp2_with (go_at_call 108; refine Calls.mono HL.out ?_; rintro e w1 ⟨rfl, hB1⟩; have HB1 : Hid (Below we.heap.size we w1) := hB1; clear hB1)
            go_ret
            exact ⟨_, f', rfl, HDc.out.below HB1.out, HHr.out.stop Hmin.out (Nat.le_of_not_lt Hk.out)⟩

set_option maxRecDepth 20000 in
set_option maxHeartbeats 4000000 in
theorem upS (hv : Value) (w : World) : Calls Yba.prog 86 #[hv, .int .i64 0] w fun e w' => e = .returned (.tuple #[]) ∧ w' = w := by
  go_enter Yba.func86, Yba.ntmps86
  go_wp2
  go_loopw [1] (fun i wr => i = .int .i64 0 ∧ wr = w) (fun i _ => 0)
  case atStart => exact ⟨rfl, rfl⟩
  case round =>
    obtain ⟨rfl, rfl⟩ := hrel
    go_wp2
    go_end0
    exact ⟨rfl, rfl⟩

/-- What Remove of the root leaves. -/
structure RmS (X : Nat → Array Value) (key : Nat → Nat) (w : World) (qb qo bk n cap : Nat) (f : Nat → Nat) (w' : World) (f' : Nat → Nat) : Prop where
  qu : Qu 47 53 134 X key w' bk n f'
  heap : HeapO key f' n
  cell : ∀ C t, w.heap[qb]? = some (.cells C t (0, 0)) → w'.heap[qb]? = some (.cells (C.setIfInBounds qo (.slice (some ⟨bk, 0, none⟩) n cap)) t (0, 0))
  gone : w'.heap[f 0]? = some (.cells ((X (f 0)).setIfInBounds 134 (.int .i64 (n : Nat))) 53 (0, 0))
  sum : ∀ g, sumF g f' n + g (f 0) = sumF g f (n + 1)
  ne : ∀ k, k < n → f' k ≠ f 0
  mem : ∀ k, k < n → ∃ k', k' < n + 1 ∧ f' k = f k'
  kept : Kept (fun k => k = bk ∨ k = qb ∨ ∃ i, i < n + 1 ∧ k = f i) w w'

theorem poppedS {X : Nat → Array Value} {key f f2 : Nat → Nat} {w wp : World} {qb qo bk n cap : Nat} (hQ : Qu 47 53 134 X key wp bk (n + 1) f2) (hf : f2 n = f 0) (hqb : wp.heap[qb]? = w.heap[qb]?) (hsum : ∀ g, sumF g f2 n + g (f 0) = sumF g f (n + 1)) (hmem : ∀ k, k < n + 1 → ∃ k', k' < n + 1 ∧ f2 k = f k')
    (hH : HeapO key f2 n) (hq : qb ≠ bk) (hqf : ∀ k, k < n + 1 → f k ≠ qb) (hK : Kept (fun k => k = bk ∨ ∃ i, i < n + 1 ∧ k = f i) w wp) :
    RmS X key w qb qo bk n cap f ((wp.setCell ⟨bk, n, none⟩ (.pointer none)).setCell ⟨qb, qo, none⟩ (.slice (some ⟨bk, 0, none⟩) n cap)) f2 := by
  obtain ⟨C, hC, hCn, hCk⟩ := hQ.blk (by omega)
  have hb : ∀ k, k ≠ bk → k ≠ qb → ((wp.setCell ⟨bk, n, none⟩ (.pointer none)).setCell ⟨qb, qo, none⟩ (.slice (some ⟨bk, 0, none⟩) n cap)).heap[k]? = wp.heap[k]? := fun k h1 h2 => by
    rw [Below.heap_setCell _ _ _ _ (fun e => h2 e), Below.heap_setCell _ _ _ _ (fun e => h1 e)]
  have hnq : ∀ k, k < n + 1 → f2 k ≠ qb := fun k hk e => by
    obtain ⟨k', hk', e'⟩ := hmem k hk
    exact hqf k' hk' (e'.symm.trans e)
  refine ⟨⟨fun _ => ⟨C.setIfInBounds n (.pointer none), ?_, by simp; omega, fun k hk => ?_⟩, fun k hk => ?_, fun k hk => hQ.tm k (by omega), fun i j hi hj => hQ.inj i j (by omega) (by omega), fun k hk => hQ.ne k (by omega)⟩, hH, fun D t hD => ?_, ?_, hsum, fun k hk e => ?_, fun k hk => hmem k (by omega), ?_⟩
  · rw [Below.heap_setCell _ _ _ _ (fun e => hq (Eq.symm e)), heap_setCell_same wp bk n C 47 _ hC]
  · rw [Array.getElem?_setIfInBounds, if_neg (by omega)]; exact hCk k (by omega)
  · rw [hb (f2 k) (hQ.ne k (by omega)) (hnq k (by omega))]; exact hQ.it k (by omega)
  · refine heap_setCell_same _ qb qo D t _ ?_
    rw [Below.heap_setCell _ _ _ _ (fun e => hq e), hqb]; exact hD
  · rw [← hf, hb (f2 n) (hQ.ne n (by omega)) (hnq n (by omega))]; exact hQ.it n (by omega)
  · have := hQ.inj k n (by omega) (by omega) (e.trans hf.symm)
    omega
  · exact Kept.setCell (Kept.setCell (hK.mono (fun k _ h => h.elim .inl (fun h => .inr (.inr h)))) ⟨bk, n, none⟩ (fun _ => .inl rfl) _) ⟨qb, qo, none⟩ (fun _ => .inr (.inl rfl)) _

set_option maxRecDepth 20000 in
set_option maxHeartbeats 4000000 in
theorem removeS (qb qo bk n cap : Nat) (X : Nat → Array Value) (key f : Nat → Nat) (w : World) (hQ : Qu 47 53 134 X key w bk (n + 1) f) (hc : w.cell? ⟨qb, qo, none⟩ = some (.slice (some ⟨bk, 0, none⟩) (n + 1) cap)) (hcap : cap < 9223372036854775808) (hn6 : n + 1 < 100000) (hnc : n + 1 ≤ cap) (hq : qb ≠ bk) (hqf : ∀ k, k < n + 1 → f k ≠ qb) (hH : HeapO key f (n + 1))
    (hfz : w.frozen? ⟨qb, qo, none⟩ = false) :
    Calls Yba.prog 84 #[.iface 193 (.pointer (some ⟨qb, qo, none⟩)), .int .i64 0] w fun e w' => ∃ v f', e = .returned v ∧ RmS X key w qb qo bk n cap f w' f' := by
  have HQ : Hid (Qu 47 53 134 X key w bk (n + 1) f) := hQ
  have Hqf : Hid (∀ k, k < n + 1 → f k ≠ qb) := hqf
  have HH : Hid (HeapO key f (n + 1)) := hH
  have hm := mLenS hc
  have e1 : (n : Int) + 1 - 1 = n := by omega
  clear hQ hqf hH
  by_cases h0 : n = 0
  · subst h0
    have hmp := mPopS qb qo w
    have c0 := HQ.out.cell (k := 0) (by omega)
    have f1 : w.frozen? ⟨bk, 0, none⟩ = false := by
      obtain ⟨C, hC, _⟩ := HQ.out.blk (by omega)
      simp [World.frozen?, hC]
    go_enter Yba.func84, Yba.ntmps84
    go_wp2_with (first | (go_at_call 107; refine (lenS _ _ _ _).mono ?_; rintro e w' ⟨rfl, hw'⟩; subst w') | (go_at_call 129; refine (popS qb qo bk 0 cap (f 0) w hc c0 f1 hfz hq (by omega) hcap (by omega)).mono ?_; rintro e w' ⟨rfl, hw'⟩))
    go_ret
    exact ⟨_, f, rfl, poppedS HQ.out rfl rfl (fun g => by simp [sumF]) (fun k hk => ⟨k, hk, rfl⟩) (fun c h0 hc => by omega) hq Hqf.out (Kept.refl _ _)⟩
  · have hne : ((n : Int) == 0) = false := by simp; omega
    have hms := mSwapS hc
    have HS : Hid _ := swapS bk (n + 1) cap 0 n X key f w HQ.out (by omega) (by omega) (by omega) (by omega)
    go_enter Yba.func84, Yba.ntmps84
    go_wp2_with (first | (go_at_call 107; refine (lenS _ _ _ _).mono ?_; rintro e w' ⟨rfl, hw'⟩; subst w'))
    refine Calls.mono HS.out ?_
    rintro e w1 ⟨rfl, hQ1, hK1⟩
    have hqb1 : w1.heap[qb]? = w.heap[qb]? := hK1.block qb (cell_lt hc) (fun h => h.elim hq (fun h => h.elim (fun h => Hqf.out 0 (by omega) h.symm) (fun h => Hqf.out n (by omega) h.symm)))
    have hc1 : w1.cell? ⟨qb, qo, none⟩ = some (.slice (some ⟨bk, 0, none⟩) (n + 1) cap) := by
      rw [← hc]; simp only [World.cell?, hqb1]
    have hz1 : w1.frozen? ⟨qb, qo, none⟩ = false := by
      rw [← hfz]; simp only [World.frozen?, hqb1]
    have HQ1 : Hid (Qu 47 53 134 X key w1 bk (n + 1) (sw f 0 n)) := hQ1
    have HK1 : Hid (Kept (fun k => k = bk ∨ k = f 0 ∨ k = f n) w w1) := hK1
    have Hqb1 : Hid (w1.heap[qb]? = w.heap[qb]?) := hqb1
    have Hqf1 : Hid (∀ k, k < n + 1 → sw f 0 n k ≠ qb) := by
      show ∀ k, k < n + 1 → sw f 0 n k ≠ qb
      intro k hk e
      obtain ⟨k', hk', e'⟩ := sw_in f (i := 0) (j := n) (n := n + 1) (by omega) (by omega) k hk
      exact Hqf.out k' hk' (e'.symm.trans e)
    have HDn : Hid _ := downS qb qo bk (n + 1) n cap X key (sw f 0 n) w1 hQ1 hc1 (by omega) (by omega) hq Hqf1.out (Hole.start HH.out)
    clear hQ1 hK1 hqb1 HS hms hm
    go_wp2_with (fail)
    refine Calls.mono HDn.out ?_
    rintro e w2 ⟨r, f2, rfl, hD2, hH2⟩
    have HD2 : Hid (DnS X key w1 qb qo bk (n + 1) n cap (sw f 0 n) w2 f2) := hD2
    have HH2 : Hid (HeapO key f2 n) := hH2
    have hc2 := hD2.cell
    have hqb2 : w2.heap[qb]? = w1.heap[qb]? := hD2.kept.block qb (cell_lt hc1) (fun h => h.elim hq (fun ⟨i, hi, e⟩ => Hqf1.out i (by omega) e.symm))
    have hz2 : w2.frozen? ⟨qb, qo, none⟩ = false := by
      rw [← hz1]; simp only [World.frozen?, hqb2]
    have cn := hD2.qu.cell (k := n) (by omega)
    have fn : w2.frozen? ⟨bk, n, none⟩ = false := by
      obtain ⟨C, hC, _⟩ := hD2.qu.blk (by omega)
      simp [World.frozen?, hC]
    have Hqb2 : Hid (w2.heap[qb]? = w.heap[qb]?) := hqb2.trans Hqb1.out
    have hmp := mPopS qb qo w2
    clear hD2 hH2 hqb2 HDn hc1 hz1
    have hfin : RmS X key w qb qo bk n cap f ((w2.setCell ⟨bk, n, none⟩ (.pointer none)).setCell ⟨qb, qo, none⟩ (.slice (some ⟨bk, 0, none⟩) n cap)) f2 := by
      have hf2 : f2 n = f 0 := by rw [HD2.out.rest n (Nat.le_refl _), sw_j]
      refine poppedS HD2.out.qu hf2 Hqb2.out (fun g => ?_) (fun k hk => ?_) HH2.out hq Hqf.out ?_
      · rw [HD2.out.sum g]
        have h1 := sumF_sw (g := g) (f := f) (i := 0) (j := n) (n := n + 1) (by omega) (by omega)
        rw [sumF, sw_j] at h1
        exact h1
      · by_cases hkn : k = n
        · subst hkn; exact ⟨0, by omega, hf2⟩
        · obtain ⟨k1, hk1, e1⟩ := HD2.out.mem k (by omega)
          obtain ⟨k2, hk2, e2⟩ := sw_in f (i := 0) (j := n) (n := n + 1) (by omega) (by omega) k1 (by omega)
          exact ⟨k2, hk2, e1.trans e2⟩
      · refine (HK1.out.mono (fun k _ h => h.elim .inl (fun h => .inr (h.elim (fun h => ⟨0, by omega, h⟩) (fun h => ⟨n, by omega, h⟩))))).trans HD2.out.kept (fun k _ h => h.elim .inl (fun ⟨i, hi, e⟩ => .inr ?_))
        obtain ⟨k2, hk2, e2⟩ := sw_in f (i := 0) (j := n) (n := n + 1) (by omega) (by omega) i (by omega)
        exact ⟨k2, hk2, e.trans e2⟩
    have Hfin : Hid _ := hfin
    clear hfin
    cases r with
    | true =>
      go_wp2_with (go_at_call 129; refine (popS qb qo bk n cap (f2 n) w2 hc2 cn fn hz2 hq (by omega) hcap (by omega)).mono ?_; rintro e w' ⟨rfl, hw'⟩; subst w')
      go_ret
      exact ⟨_, f2, rfl, Hfin.out⟩
    | false =>
      go_wp2_with (first | (go_at_call 86; refine (upS _ _).mono ?_; rintro e w' ⟨rfl, hw'⟩; subst w') | (go_at_call 129; refine (popS qb qo bk n cap (f2 n) w2 hc2 cn fn hz2 hq (by omega) hcap (by omega)).mono ?_; rintro e w' ⟨rfl, hw'⟩; subst w'))
      go_ret
      exact ⟨_, f2, rfl, Hfin.out⟩
end Go.Proofs.Ybulkamjs
