/- criteria.metBy. -/
import Derived.Test.YbulkamrgOfp
import Derived.Test.YbulkamrgLate
namespace Go.Proofs.Ybulkamrg
set_option linter.unusedSimpArgs false
set_option linter.unusedVariables false
open Go.RowKit Go.Maps Go.WideMaps

theorem tm_bool (c o : Nat) (fS fT : Nat → Option ByteArray) (vT : Value) (w : World) (hM : Tm w c o fS) (hT : MapF w vT fT) (r : Bool) (hr : r = true ↔ tmeet fS fT) :
    Calls Yba.prog 16 #[.pointer (some ⟨c, o, none⟩), vT] w fun e w' => e = .returned (.bool r) ∧ Below w.heap.size w w' :=
  (tm_any c o fS fT vT w hM hT).mono fun e w' ⟨r', he, h, hB⟩ => by
    have : r' = r := by
      cases r <;> cases r' <;> simp_all
    exact ⟨by rw [he, this], hB⟩

/-- A server's description at an address. -/
def Srv (w : World) (g o : Nat) (ad : ByteArray) (t : Nat) (vT : Value) (fT : Nat → Option ByteArray) : Prop :=
  w.cell? ⟨g, o, none⟩ = some (.string ad) ∧ w.cell? ⟨g, o + 1, none⟩ = some (.int .u8 t) ∧ w.cell? ⟨g, o + 3, none⟩ = some vT ∧ MapF w vT fT ∧ t < 6
theorem Srv.keep {w w' : World} {g o t : Nat} {ad : ByteArray} {vT : Value} {fT : Nat → Option ByteArray} (h : Srv w g o ad t vT fT) (hB : Below w.heap.size w w') : Srv w' g o ad t vT fT :=
  ⟨Below.cellAt hB h.1, Below.cellAt hB h.2.1, Below.cellAt hB h.2.2.1, h.2.2.2.1.keep hB, h.2.2.2.2⟩
/-- Criteria at an address (their tags matching fS). -/
def Crit (w : World) (c : Nat) (ty : Int) (a : Option Addr) (ss : List ByteArray) (cap : Nat) (fS : Nat → Option ByteArray) : Prop :=
  w.cell? ⟨c, 0, none⟩ = some (.int .u16 ty) ∧ w.cell? ⟨c, 1, none⟩ = some (.slice a ss.length cap) ∧ Strs w a ss ∧ ss.length < 100000 ∧
  (w.cell? ⟨c, 2, none⟩ = some (.bool false) ∧ w.cell? ⟨c, 3, none⟩ = some (.int .i64 0) ∧ w.cell? ⟨c, 4, none⟩ = some (.int .i64 0) ∧ w.cell? ⟨c, 5, none⟩ = some (.bool false) ∧ w.cell? ⟨c, 6, none⟩ = some (.int .i64 0) ∧
    w.cell? ⟨c, 7, none⟩ = some (.int .u64 0) ∧ w.cell? ⟨c, 8, none⟩ = some (.int .i64 0) ∧ w.cell? ⟨c, 9, none⟩ = some (.pointer none)) ∧ Tm w c 10 fS
theorem Crit.keep {w w' : World} {c cap : Nat} {ty : Int} {a : Option Addr} {ss : List ByteArray} {fS : Nat → Option ByteArray} (h : Crit w c ty a ss cap fS) (hB : Below w.heap.size w w') : Crit w' c ty a ss cap fS := by
  obtain ⟨h1, h2, h3, h4, ⟨e2, e3, e4, e5, e6, e7, e8, e9⟩, h5⟩ := h
  exact ⟨Below.cellAt hB h1, Below.cellAt hB h2, h3.keep hB, h4, ⟨Below.cellAt hB e2, Below.cellAt hB e3, Below.cellAt hB e4, Below.cellAt hB e5, Below.cellAt hB e6, Below.cellAt hB e7, Below.cellAt hB e8, Below.cellAt hB e9⟩, h5.keep hB⟩

/-- Does the server meet the criteria? -/
noncomputable def meets (ty : Int) (ss : List ByteArray) (fS : Nat → Option ByteArray) (ad : ByteArray) (t : Nat) (fT : Nat → Option ByteArray) : Bool :=
  hasT ty t && !inS ad ss && @decide (tmeet fS fT) (Classical.propDecidable _)

theorem has_bool (ty : Int) (t : Nat) (ht : t < 6) (b : Bool) (hb : hasT ty t = b) (w : World) : Calls Yba.prog 14 #[.int .u16 ty, .int .u8 t] w fun e w' => e = .returned (.bool b) ∧ w' = w := hb ▸ has_any ty t ht w
theorem contains_bool (a : Option Addr) (ss : List ByteArray) (cap : Nat) (s : ByteArray) (w : World) (hb : Strs w a ss) (hl : ss.length < 100000) (b : Bool) (h : inS s ss = b) :
    Calls Yba.prog 15 #[.slice a ss.length cap, .string s] w fun e w' => e = .returned (.bool b) ∧ w' = w := h ▸ contains_any a ss cap s w hb hl

/-- What the region of metBy reads. -/
def MetS (c g o : Nat) (ty : Int) (sl vT : Value) (ad : ByteArray) (t : Nat) (w0 w : World) : Prop :=
  w.cell? ⟨c, 0, none⟩ = some (.int .u16 ty) ∧ w.cell? ⟨c, 1, none⟩ = some sl ∧ w.cell? ⟨g, o, none⟩ = some (.string ad) ∧ w.cell? ⟨g, o + 1, none⟩ = some (.int .u8 t) ∧ w.cell? ⟨g, o + 3, none⟩ = some vT ∧
  w.cell? ⟨c, 2, none⟩ = some (.bool false) ∧ w.cell? ⟨c, 3, none⟩ = some (.int .i64 0) ∧ w.cell? ⟨c, 4, none⟩ = some (.int .i64 0) ∧ w.cell? ⟨c, 5, none⟩ = some (.bool false) ∧ w.cell? ⟨c, 6, none⟩ = some (.int .i64 0) ∧
    w.cell? ⟨c, 7, none⟩ = some (.int .u64 0) ∧ w.cell? ⟨c, 8, none⟩ = some (.int .i64 0) ∧ w.cell? ⟨c, 9, none⟩ = some (.pointer none) ∧ Hid (Below w0.heap.size w0 w)
theorem MetS.keep {c g o t : Nat} {ty : Int} {sl vT : Value} {ad : ByteArray} {w0 w w' : World} (h : MetS c g o ty sl vT ad t w0 w) (hB : Below w.heap.size w w') : MetS c g o ty sl vT ad t w0 w' := by
  obtain ⟨h1, h2, h3, h4, h5, e2, e3, e4, e5, e6, e7, e8, e9, hb⟩ := h
  have hs := hb.out.size
  exact ⟨Below.cellAt hB h1, Below.cellAt hB h2, Below.cellAt hB h3, Below.cellAt hB h4, Below.cellAt hB h5, Below.cellAt hB e2, Below.cellAt hB e3, Below.cellAt hB e4, Below.cellAt hB e5, Below.cellAt hB e6, Below.cellAt hB e7, Below.cellAt hB e8, Below.cellAt hB e9, hb.out.trans (Below.less hB hs)⟩

set_option maxRecDepth 20000 in
set_option maxHeartbeats 8000000 in
theorem met_no (c g o cap t : Nat) (ty : Int) (a : Option Addr) (ss : List ByteArray) (fS fT : Nat → Option ByteArray) (ad : ByteArray) (vT : Value) (w : World) (hC : Crit w c ty a ss cap fS) (hS : Srv w g o ad t vT fT) (h1 : hasT ty t = false) :
    Calls Yba.prog 9 #[.pointer (some ⟨c, 0, none⟩), .pointer (some ⟨g, o, none⟩)] w fun e w' => e = .returned (.bool false) ∧ Below w.heap.size w w' := by
  have ht := hS.2.2.2.2
  have HSn : (fun w' => w'.cell? ⟨c, 0, none⟩ = some (.int .u16 ty) ∧ w'.cell? ⟨c, 1, none⟩ = some (.slice a ss.length cap) ∧ w'.cell? ⟨g, o, none⟩ = some (.string ad) ∧ w'.cell? ⟨g, o + 1, none⟩ = some (.int .u8 t) ∧ w'.cell? ⟨g, o + 3, none⟩ = some vT ∧ w'.cell? ⟨c, 2, none⟩ = some (.bool false) ∧ w'.cell? ⟨c, 3, none⟩ = some (.int .i64 0) ∧ w'.cell? ⟨c, 4, none⟩ = some (.int .i64 0) ∧ w'.cell? ⟨c, 5, none⟩ = some (.bool false) ∧ w'.cell? ⟨c, 6, none⟩ = some (.int .i64 0) ∧ w'.cell? ⟨c, 7, none⟩ = some (.int .u64 0) ∧ w'.cell? ⟨c, 8, none⟩ = some (.int .i64 0) ∧ w'.cell? ⟨c, 9, none⟩ = some (.pointer none) ∧ Hid (Below w.heap.size w w')) w.drew := by
    obtain ⟨q1, q2, q3, q4, ⟨e2, e3, e4, e5, e6, e7, e8, e9⟩, q5⟩ := hC
    exact ⟨q1, q2, hS.1, hS.2.1, hS.2.2.1, e2, e3, e4, e5, e6, e7, e8, e9, (Below.refl _ _).drew⟩
  have HCr : Hid (Crit w c ty a ss cap fS) := hC
  have HSv : Hid (Srv w g o ad t vT fT) := hS
  clear hC hS
  skip
  skip
  go_enter Yba.func9, Yba.ntmps9
  go_wp2
  refine region_late (S := fun w' => w'.cell? ⟨c, 0, none⟩ = some (.int .u16 ty) ∧ w'.cell? ⟨c, 1, none⟩ = some (.slice a ss.length cap) ∧ w'.cell? ⟨g, o, none⟩ = some (.string ad) ∧ w'.cell? ⟨g, o + 1, none⟩ = some (.int .u8 t) ∧ w'.cell? ⟨g, o + 3, none⟩ = some vT ∧ w'.cell? ⟨c, 2, none⟩ = some (.bool false) ∧ w'.cell? ⟨c, 3, none⟩ = some (.int .i64 0) ∧ w'.cell? ⟨c, 4, none⟩ = some (.int .i64 0) ∧ w'.cell? ⟨c, 5, none⟩ = some (.bool false) ∧ w'.cell? ⟨c, 6, none⟩ = some (.int .i64 0) ∧ w'.cell? ⟨c, 7, none⟩ = some (.int .u64 0) ∧ w'.cell? ⟨c, 8, none⟩ = some (.int .i64 0) ∧ w'.cell? ⟨c, 9, none⟩ = some (.pointer none) ∧ Hid (Below w.heap.size w w')) (late := fun _ => false) (by kernel_rfl) ?_
  refine anyLate_takeW (i := 0) (v := .pointer (some ⟨c, 0, none⟩)) rfl (by kernel_rfl) (by kernel_rfl) (by kernel_rfl) (fun _ _ _ h => h) (.inl ⟨by kernel_rfl, fun w _ => by go_simp⟩) ?_
  simp only [Act.put, List.setIfInBounds_toArray, List.set_cons_zero, List.set_cons_succ]
  refine anyLate_takeW (i := 1) (v := .pointer (some ⟨c, 0, none⟩)) rfl (by kernel_rfl) (by kernel_rfl) (by kernel_rfl) (fun _ _ _ h => h) (.inl ⟨by kernel_rfl, fun w _ => by go_simp⟩) ?_
  simp only [Act.put, List.setIfInBounds_toArray, List.set_cons_zero, List.set_cons_succ]
  refine anyLate_takeW (i := 2) (v := .pointer (some ⟨c, 0, none⟩)) rfl (by kernel_rfl) (by kernel_rfl) (by kernel_rfl) (fun _ _ _ h => h) (.inl ⟨by kernel_rfl, fun w _ => by go_simp⟩) ?_
  simp only [Act.put, List.setIfInBounds_toArray, List.set_cons_zero, List.set_cons_succ]
  refine anyLate_take (i := 3) (v := .int .u16 ty) rfl (by kernel_rfl) (by kernel_rfl) (by kernel_rfl) (fun _ _ _ h => h) rfl (by kernel_rfl) (.inl ⟨by kernel_rfl, fun w hSw => by (obtain ⟨s1, s2, s3, s4, s5, s6, s7, s8, s9, s10, s11, s12, s13, _⟩ := hSw; go_simp)⟩) HSn ?_
  simp only [Act.put, List.setIfInBounds_toArray, List.set_cons_zero, List.set_cons_succ]
  refine anyLate_takeW (i := 4) (v := .pointer (some ⟨g, o, none⟩)) rfl (by kernel_rfl) (by kernel_rfl) (by kernel_rfl) (fun _ _ _ h => h) (.inl ⟨by kernel_rfl, fun w _ => by go_simp⟩) ?_
  simp only [Act.put, List.setIfInBounds_toArray, List.set_cons_zero, List.set_cons_succ]
  refine anyLate_takeW (i := 5) (v := .pointer (some ⟨g, o, none⟩)) rfl (by kernel_rfl) (by kernel_rfl) (by kernel_rfl) (fun _ _ _ h => h) (.inl ⟨by kernel_rfl, fun w _ => by go_simp⟩) ?_
  simp only [Act.put, List.setIfInBounds_toArray, List.set_cons_zero, List.set_cons_succ]
  refine anyLate_takeW (i := 6) (v := .pointer (some ⟨g, o + 1, none⟩)) rfl (by kernel_rfl) (by kernel_rfl) (by kernel_rfl) (fun _ _ _ h => h) (.inl ⟨by kernel_rfl, fun w _ => by go_simp⟩) ?_
  simp only [Act.put, List.setIfInBounds_toArray, List.set_cons_zero, List.set_cons_succ]
  refine anyLate_take (i := 7) (v := .int .u8 t) rfl (by kernel_rfl) (by kernel_rfl) (by kernel_rfl) (fun _ _ _ h => h) rfl (by kernel_rfl) (.inl ⟨by kernel_rfl, fun w hSw => by (obtain ⟨s1, s2, s3, s4, s5, s6, s7, s8, s9, s10, s11, s12, s13, _⟩ := hSw; go_simp)⟩) HSn ?_
  simp only [Act.put, List.setIfInBounds_toArray, List.set_cons_zero, List.set_cons_succ]
  refine anyLate_ready (rs := [8]) (by kernel_rfl) (by simp) ?_
  refine AllLate.cons rfl (fun K' hK' => ?_) AllLate.nil
  go_simp
  refine Calls.mono (has_bool ty t ht false h1 _) ?_
  rintro e wn ⟨rfl, hwn⟩
  subst hwn
  refine hK'.out _ _ (fun _ h => h) ?_
  clear hK'
  try simp only [Act.put, List.setIfInBounds_toArray, List.set_cons_zero, List.set_cons_succ]
  refine anyLate_takeW (i := 9) (v := .bool false) rfl (by kernel_rfl) (by kernel_rfl) (by kernel_rfl) (fun _ _ _ h => h) (.inl ⟨by kernel_rfl, fun w _ => by go_simp⟩) ?_
  simp only [Act.put, List.setIfInBounds_toArray, List.set_cons_zero, List.set_cons_succ]
  refine anyLate_takeW (i := 10) (v := undef) rfl (by kernel_rfl) (by kernel_rfl) (by kernel_rfl) (fun _ _ _ h => h) (.inr ⟨by kernel_rfl, rfl⟩) ?_
  simp only [Act.put, List.setIfInBounds_toArray, List.set_cons_zero, List.set_cons_succ]
  refine anyLate_takeW (i := 11) (v := undef) rfl (by kernel_rfl) (by kernel_rfl) (by kernel_rfl) (fun _ _ _ h => h) (.inr ⟨by kernel_rfl, rfl⟩) ?_
  simp only [Act.put, List.setIfInBounds_toArray, List.set_cons_zero, List.set_cons_succ]
  refine anyLate_takeW (i := 12) (v := undef) rfl (by kernel_rfl) (by kernel_rfl) (by kernel_rfl) (fun _ _ _ h => h) (.inr ⟨by kernel_rfl, rfl⟩) ?_
  simp only [Act.put, List.setIfInBounds_toArray, List.set_cons_zero, List.set_cons_succ]
  refine anyLate_takeW (i := 13) (v := undef) rfl (by kernel_rfl) (by kernel_rfl) (by kernel_rfl) (fun _ _ _ h => h) (.inr ⟨by kernel_rfl, rfl⟩) ?_
  simp only [Act.put, List.setIfInBounds_toArray, List.set_cons_zero, List.set_cons_succ]
  refine anyLate_takeW (i := 14) (v := undef) rfl (by kernel_rfl) (by kernel_rfl) (by kernel_rfl) (fun _ _ _ h => h) (.inr ⟨by kernel_rfl, rfl⟩) ?_
  simp only [Act.put, List.setIfInBounds_toArray, List.set_cons_zero, List.set_cons_succ]
  refine anyLate_takeW (i := 15) (v := undef) rfl (by kernel_rfl) (by kernel_rfl) (by kernel_rfl) (fun _ _ _ h => h) (.inr ⟨by kernel_rfl, rfl⟩) ?_
  simp only [Act.put, List.setIfInBounds_toArray, List.set_cons_zero, List.set_cons_succ]
  refine anyLate_takeW (i := 16) (v := undef) rfl (by kernel_rfl) (by kernel_rfl) (by kernel_rfl) (fun _ _ _ h => h) (.inr ⟨by kernel_rfl, rfl⟩) ?_
  simp only [Act.put, List.setIfInBounds_toArray, List.set_cons_zero, List.set_cons_succ]
  refine anyLate_takeW (i := 17) (v := undef) rfl (by kernel_rfl) (by kernel_rfl) (by kernel_rfl) (fun _ _ _ h => h) (.inr ⟨by kernel_rfl, rfl⟩) ?_
  simp only [Act.put, List.setIfInBounds_toArray, List.set_cons_zero, List.set_cons_succ]
  refine anyLate_takeW (i := 18) (v := undef) rfl (by kernel_rfl) (by kernel_rfl) (by kernel_rfl) (fun _ _ _ h => h) (.inr ⟨by kernel_rfl, rfl⟩) ?_
  simp only [Act.put, List.setIfInBounds_toArray, List.set_cons_zero, List.set_cons_succ]
  refine anyLate_takeW (i := 19) (v := undef) rfl (by kernel_rfl) (by kernel_rfl) (by kernel_rfl) (fun _ _ _ h => h) (.inr ⟨by kernel_rfl, rfl⟩) ?_
  simp only [Act.put, List.setIfInBounds_toArray, List.set_cons_zero, List.set_cons_succ]
  refine anyLate_takeW (i := 20) (v := .bool false) rfl (by kernel_rfl) (by kernel_rfl) (by kernel_rfl) (fun _ _ _ h => h) (.inl ⟨by kernel_rfl, fun w _ => by go_simp⟩) ?_
  simp only [Act.put, List.setIfInBounds_toArray, List.set_cons_zero, List.set_cons_succ]
  refine anyLate_takeW (i := 21) (v := .bool false) rfl (by kernel_rfl) (by kernel_rfl) (by kernel_rfl) (fun _ _ _ h => h) (.inl ⟨by kernel_rfl, fun w _ => by go_simp⟩) ?_
  simp only [Act.put, List.setIfInBounds_toArray, List.set_cons_zero, List.set_cons_succ]
  refine anyLate_takeW (i := 22) (v := undef) rfl (by kernel_rfl) (by kernel_rfl) (by kernel_rfl) (fun _ _ _ h => h) (.inr ⟨by kernel_rfl, rfl⟩) ?_
  simp only [Act.put, List.setIfInBounds_toArray, List.set_cons_zero, List.set_cons_succ]
  refine anyLate_takeW (i := 23) (v := undef) rfl (by kernel_rfl) (by kernel_rfl) (by kernel_rfl) (fun _ _ _ h => h) (.inr ⟨by kernel_rfl, rfl⟩) ?_
  simp only [Act.put, List.setIfInBounds_toArray, List.set_cons_zero, List.set_cons_succ]
  refine anyLate_takeW (i := 24) (v := undef) rfl (by kernel_rfl) (by kernel_rfl) (by kernel_rfl) (fun _ _ _ h => h) (.inr ⟨by kernel_rfl, rfl⟩) ?_
  simp only [Act.put, List.setIfInBounds_toArray, List.set_cons_zero, List.set_cons_succ]
  refine anyLate_takeW (i := 25) (v := undef) rfl (by kernel_rfl) (by kernel_rfl) (by kernel_rfl) (fun _ _ _ h => h) (.inr ⟨by kernel_rfl, rfl⟩) ?_
  simp only [Act.put, List.setIfInBounds_toArray, List.set_cons_zero, List.set_cons_succ]
  refine anyLate_takeW (i := 26) (v := undef) rfl (by kernel_rfl) (by kernel_rfl) (by kernel_rfl) (fun _ _ _ h => h) (.inr ⟨by kernel_rfl, rfl⟩) ?_
  simp only [Act.put, List.setIfInBounds_toArray, List.set_cons_zero, List.set_cons_succ]
  refine anyLate_takeW (i := 27) (v := undef) rfl (by kernel_rfl) (by kernel_rfl) (by kernel_rfl) (fun _ _ _ h => h) (.inr ⟨by kernel_rfl, rfl⟩) ?_
  simp only [Act.put, List.setIfInBounds_toArray, List.set_cons_zero, List.set_cons_succ]
  refine anyLate_takeW (i := 28) (v := undef) rfl (by kernel_rfl) (by kernel_rfl) (by kernel_rfl) (fun _ _ _ h => h) (.inr ⟨by kernel_rfl, rfl⟩) ?_
  simp only [Act.put, List.setIfInBounds_toArray, List.set_cons_zero, List.set_cons_succ]
  refine anyLate_takeW (i := 29) (v := undef) rfl (by kernel_rfl) (by kernel_rfl) (by kernel_rfl) (fun _ _ _ h => h) (.inr ⟨by kernel_rfl, rfl⟩) ?_
  simp only [Act.put, List.setIfInBounds_toArray, List.set_cons_zero, List.set_cons_succ]
  refine anyLate_takeW (i := 30) (v := .bool false) rfl (by kernel_rfl) (by kernel_rfl) (by kernel_rfl) (fun _ _ _ h => h) (.inl ⟨by kernel_rfl, fun w _ => by go_simp⟩) ?_
  simp only [Act.put, List.setIfInBounds_toArray, List.set_cons_zero, List.set_cons_succ]
  refine anyLate_takeW (i := 31) (v := .bool false) rfl (by kernel_rfl) (by kernel_rfl) (by kernel_rfl) (fun _ _ _ h => h) (.inl ⟨by kernel_rfl, fun w _ => by go_simp⟩) ?_
  simp only [Act.put, List.setIfInBounds_toArray, List.set_cons_zero, List.set_cons_succ]
  refine anyLate_takeW (i := 32) (v := undef) rfl (by kernel_rfl) (by kernel_rfl) (by kernel_rfl) (fun _ _ _ h => h) (.inr ⟨by kernel_rfl, rfl⟩) ?_
  simp only [Act.put, List.setIfInBounds_toArray, List.set_cons_zero, List.set_cons_succ]
  refine anyLate_takeW (i := 33) (v := undef) rfl (by kernel_rfl) (by kernel_rfl) (by kernel_rfl) (fun _ _ _ h => h) (.inr ⟨by kernel_rfl, rfl⟩) ?_
  simp only [Act.put, List.setIfInBounds_toArray, List.set_cons_zero, List.set_cons_succ]
  refine anyLate_takeW (i := 34) (v := undef) rfl (by kernel_rfl) (by kernel_rfl) (by kernel_rfl) (fun _ _ _ h => h) (.inr ⟨by kernel_rfl, rfl⟩) ?_
  simp only [Act.put, List.setIfInBounds_toArray, List.set_cons_zero, List.set_cons_succ]
  refine anyLate_takeW (i := 35) (v := undef) rfl (by kernel_rfl) (by kernel_rfl) (by kernel_rfl) (fun _ _ _ h => h) (.inr ⟨by kernel_rfl, rfl⟩) ?_
  simp only [Act.put, List.setIfInBounds_toArray, List.set_cons_zero, List.set_cons_succ]
  refine anyLate_takeW (i := 36) (v := undef) rfl (by kernel_rfl) (by kernel_rfl) (by kernel_rfl) (fun _ _ _ h => h) (.inr ⟨by kernel_rfl, rfl⟩) ?_
  simp only [Act.put, List.setIfInBounds_toArray, List.set_cons_zero, List.set_cons_succ]
  refine anyLate_takeW (i := 37) (v := undef) rfl (by kernel_rfl) (by kernel_rfl) (by kernel_rfl) (fun _ _ _ h => h) (.inr ⟨by kernel_rfl, rfl⟩) ?_
  simp only [Act.put, List.setIfInBounds_toArray, List.set_cons_zero, List.set_cons_succ]
  refine anyLate_takeW (i := 38) (v := .bool false) rfl (by kernel_rfl) (by kernel_rfl) (by kernel_rfl) (fun _ _ _ h => h) (.inl ⟨by kernel_rfl, fun w _ => by go_simp⟩) ?_
  simp only [Act.put, List.setIfInBounds_toArray, List.set_cons_zero, List.set_cons_succ]
  refine anyLate_takeW (i := 39) (v := .bool false) rfl (by kernel_rfl) (by kernel_rfl) (by kernel_rfl) (fun _ _ _ h => h) (.inl ⟨by kernel_rfl, fun w _ => by go_simp⟩) ?_
  go_simp
  refine anyLate_done (by kernel_rfl) ?_ _
  obtain ⟨_, _, _, _, _, _, _, _, _, _, _, _, _, HBe⟩ := HSn
  go_wp2
  go_ret
  refine ⟨?_, HBe.out⟩
  first | rfl | simp

set_option maxRecDepth 20000 in
set_option maxHeartbeats 8000000 in
theorem met_in (c g o cap t : Nat) (ty : Int) (a : Option Addr) (ss : List ByteArray) (fS fT : Nat → Option ByteArray) (ad : ByteArray) (vT : Value) (w : World) (hC : Crit w c ty a ss cap fS) (hS : Srv w g o ad t vT fT) (h1 : hasT ty t = true) (h2 : inS ad ss = true) :
    Calls Yba.prog 9 #[.pointer (some ⟨c, 0, none⟩), .pointer (some ⟨g, o, none⟩)] w fun e w' => e = .returned (.bool false) ∧ Below w.heap.size w w' := by
  have ht := hS.2.2.2.2
  have HSn : (fun w' => w'.cell? ⟨c, 0, none⟩ = some (.int .u16 ty) ∧ w'.cell? ⟨c, 1, none⟩ = some (.slice a ss.length cap) ∧ w'.cell? ⟨g, o, none⟩ = some (.string ad) ∧ w'.cell? ⟨g, o + 1, none⟩ = some (.int .u8 t) ∧ w'.cell? ⟨g, o + 3, none⟩ = some vT ∧ w'.cell? ⟨c, 2, none⟩ = some (.bool false) ∧ w'.cell? ⟨c, 3, none⟩ = some (.int .i64 0) ∧ w'.cell? ⟨c, 4, none⟩ = some (.int .i64 0) ∧ w'.cell? ⟨c, 5, none⟩ = some (.bool false) ∧ w'.cell? ⟨c, 6, none⟩ = some (.int .i64 0) ∧ w'.cell? ⟨c, 7, none⟩ = some (.int .u64 0) ∧ w'.cell? ⟨c, 8, none⟩ = some (.int .i64 0) ∧ w'.cell? ⟨c, 9, none⟩ = some (.pointer none) ∧ Hid (Below w.heap.size w w')) w.drew := by
    obtain ⟨q1, q2, q3, q4, ⟨e2, e3, e4, e5, e6, e7, e8, e9⟩, q5⟩ := hC
    exact ⟨q1, q2, hS.1, hS.2.1, hS.2.2.1, e2, e3, e4, e5, e6, e7, e8, e9, (Below.refl _ _).drew⟩
  have HCr : Hid (Crit w c ty a ss cap fS) := hC
  have HSv : Hid (Srv w g o ad t vT fT) := hS
  clear hC hS
  skip
  skip
  go_enter Yba.func9, Yba.ntmps9
  go_wp2
  refine region_late (S := fun w' => w'.cell? ⟨c, 0, none⟩ = some (.int .u16 ty) ∧ w'.cell? ⟨c, 1, none⟩ = some (.slice a ss.length cap) ∧ w'.cell? ⟨g, o, none⟩ = some (.string ad) ∧ w'.cell? ⟨g, o + 1, none⟩ = some (.int .u8 t) ∧ w'.cell? ⟨g, o + 3, none⟩ = some vT ∧ w'.cell? ⟨c, 2, none⟩ = some (.bool false) ∧ w'.cell? ⟨c, 3, none⟩ = some (.int .i64 0) ∧ w'.cell? ⟨c, 4, none⟩ = some (.int .i64 0) ∧ w'.cell? ⟨c, 5, none⟩ = some (.bool false) ∧ w'.cell? ⟨c, 6, none⟩ = some (.int .i64 0) ∧ w'.cell? ⟨c, 7, none⟩ = some (.int .u64 0) ∧ w'.cell? ⟨c, 8, none⟩ = some (.int .i64 0) ∧ w'.cell? ⟨c, 9, none⟩ = some (.pointer none) ∧ Hid (Below w.heap.size w w')) (late := fun _ => false) (by kernel_rfl) ?_
  refine anyLate_takeW (i := 0) (v := .pointer (some ⟨c, 0, none⟩)) rfl (by kernel_rfl) (by kernel_rfl) (by kernel_rfl) (fun _ _ _ h => h) (.inl ⟨by kernel_rfl, fun w _ => by go_simp⟩) ?_
  simp only [Act.put, List.setIfInBounds_toArray, List.set_cons_zero, List.set_cons_succ]
  refine anyLate_takeW (i := 1) (v := .pointer (some ⟨c, 0, none⟩)) rfl (by kernel_rfl) (by kernel_rfl) (by kernel_rfl) (fun _ _ _ h => h) (.inl ⟨by kernel_rfl, fun w _ => by go_simp⟩) ?_
  simp only [Act.put, List.setIfInBounds_toArray, List.set_cons_zero, List.set_cons_succ]
  refine anyLate_takeW (i := 2) (v := .pointer (some ⟨c, 0, none⟩)) rfl (by kernel_rfl) (by kernel_rfl) (by kernel_rfl) (fun _ _ _ h => h) (.inl ⟨by kernel_rfl, fun w _ => by go_simp⟩) ?_
  simp only [Act.put, List.setIfInBounds_toArray, List.set_cons_zero, List.set_cons_succ]
  refine anyLate_take (i := 3) (v := .int .u16 ty) rfl (by kernel_rfl) (by kernel_rfl) (by kernel_rfl) (fun _ _ _ h => h) rfl (by kernel_rfl) (.inl ⟨by kernel_rfl, fun w hSw => by (obtain ⟨s1, s2, s3, s4, s5, s6, s7, s8, s9, s10, s11, s12, s13, _⟩ := hSw; go_simp)⟩) HSn ?_
  simp only [Act.put, List.setIfInBounds_toArray, List.set_cons_zero, List.set_cons_succ]
  refine anyLate_takeW (i := 4) (v := .pointer (some ⟨g, o, none⟩)) rfl (by kernel_rfl) (by kernel_rfl) (by kernel_rfl) (fun _ _ _ h => h) (.inl ⟨by kernel_rfl, fun w _ => by go_simp⟩) ?_
  simp only [Act.put, List.setIfInBounds_toArray, List.set_cons_zero, List.set_cons_succ]
  refine anyLate_takeW (i := 5) (v := .pointer (some ⟨g, o, none⟩)) rfl (by kernel_rfl) (by kernel_rfl) (by kernel_rfl) (fun _ _ _ h => h) (.inl ⟨by kernel_rfl, fun w _ => by go_simp⟩) ?_
  simp only [Act.put, List.setIfInBounds_toArray, List.set_cons_zero, List.set_cons_succ]
  refine anyLate_takeW (i := 6) (v := .pointer (some ⟨g, o + 1, none⟩)) rfl (by kernel_rfl) (by kernel_rfl) (by kernel_rfl) (fun _ _ _ h => h) (.inl ⟨by kernel_rfl, fun w _ => by go_simp⟩) ?_
  simp only [Act.put, List.setIfInBounds_toArray, List.set_cons_zero, List.set_cons_succ]
  refine anyLate_take (i := 7) (v := .int .u8 t) rfl (by kernel_rfl) (by kernel_rfl) (by kernel_rfl) (fun _ _ _ h => h) rfl (by kernel_rfl) (.inl ⟨by kernel_rfl, fun w hSw => by (obtain ⟨s1, s2, s3, s4, s5, s6, s7, s8, s9, s10, s11, s12, s13, _⟩ := hSw; go_simp)⟩) HSn ?_
  simp only [Act.put, List.setIfInBounds_toArray, List.set_cons_zero, List.set_cons_succ]
  refine anyLate_ready (rs := [8]) (by kernel_rfl) (by simp) ?_
  refine AllLate.cons rfl (fun K' hK' => ?_) AllLate.nil
  go_simp
  refine Calls.mono (has_bool ty t ht true h1 _) ?_
  rintro e wn ⟨rfl, hwn⟩
  subst hwn
  refine hK'.out _ _ (fun _ h => h) ?_
  clear hK'
  try simp only [Act.put, List.setIfInBounds_toArray, List.set_cons_zero, List.set_cons_succ]
  refine anyLate_takeW (i := 9) (v := .bool true) rfl (by kernel_rfl) (by kernel_rfl) (by kernel_rfl) (fun _ _ _ h => h) (.inl ⟨by kernel_rfl, fun w _ => by go_simp⟩) ?_
  simp only [Act.put, List.setIfInBounds_toArray, List.set_cons_zero, List.set_cons_succ]
  refine anyLate_takeW (i := 10) (v := .pointer (some ⟨c, 0, none⟩)) rfl (by kernel_rfl) (by kernel_rfl) (by kernel_rfl) (fun _ _ _ h => h) (.inl ⟨by kernel_rfl, fun w _ => by go_simp⟩) ?_
  simp only [Act.put, List.setIfInBounds_toArray, List.set_cons_zero, List.set_cons_succ]
  refine anyLate_takeW (i := 11) (v := .pointer (some ⟨c, 0, none⟩)) rfl (by kernel_rfl) (by kernel_rfl) (by kernel_rfl) (fun _ _ _ h => h) (.inl ⟨by kernel_rfl, fun w _ => by go_simp⟩) ?_
  simp only [Act.put, List.setIfInBounds_toArray, List.set_cons_zero, List.set_cons_succ]
  refine anyLate_takeW (i := 12) (v := .pointer (some ⟨c, 1, none⟩)) rfl (by kernel_rfl) (by kernel_rfl) (by kernel_rfl) (fun _ _ _ h => h) (.inl ⟨by kernel_rfl, fun w _ => by go_simp⟩) ?_
  simp only [Act.put, List.setIfInBounds_toArray, List.set_cons_zero, List.set_cons_succ]
  refine anyLate_take (i := 13) (v := .slice a ss.length cap) rfl (by kernel_rfl) (by kernel_rfl) (by kernel_rfl) (fun _ _ _ h => h) rfl (by kernel_rfl) (.inl ⟨by kernel_rfl, fun w hSw => by (obtain ⟨s1, s2, s3, s4, s5, s6, s7, s8, s9, s10, s11, s12, s13, _⟩ := hSw; go_simp)⟩) HSn ?_
  simp only [Act.put, List.setIfInBounds_toArray, List.set_cons_zero, List.set_cons_succ]
  refine anyLate_takeW (i := 14) (v := .pointer (some ⟨g, o, none⟩)) rfl (by kernel_rfl) (by kernel_rfl) (by kernel_rfl) (fun _ _ _ h => h) (.inl ⟨by kernel_rfl, fun w _ => by go_simp⟩) ?_
  simp only [Act.put, List.setIfInBounds_toArray, List.set_cons_zero, List.set_cons_succ]
  refine anyLate_takeW (i := 15) (v := .pointer (some ⟨g, o, none⟩)) rfl (by kernel_rfl) (by kernel_rfl) (by kernel_rfl) (fun _ _ _ h => h) (.inl ⟨by kernel_rfl, fun w _ => by go_simp⟩) ?_
  simp only [Act.put, List.setIfInBounds_toArray, List.set_cons_zero, List.set_cons_succ]
  refine anyLate_takeW (i := 16) (v := .pointer (some ⟨g, o, none⟩)) rfl (by kernel_rfl) (by kernel_rfl) (by kernel_rfl) (fun _ _ _ h => h) (.inl ⟨by kernel_rfl, fun w _ => by go_simp⟩) ?_
  simp only [Act.put, List.setIfInBounds_toArray, List.set_cons_zero, List.set_cons_succ]
  refine anyLate_take (i := 17) (v := .string ad) rfl (by kernel_rfl) (by kernel_rfl) (by kernel_rfl) (fun _ _ _ h => h) rfl (by kernel_rfl) (.inl ⟨by kernel_rfl, fun w hSw => by (obtain ⟨s1, s2, s3, s4, s5, s6, s7, s8, s9, s10, s11, s12, s13, _⟩ := hSw; go_simp)⟩) HSn ?_
  simp only [Act.put, List.setIfInBounds_toArray, List.set_cons_zero, List.set_cons_succ]
  refine anyLate_ready (rs := [18]) (by kernel_rfl) (by simp) ?_
  refine AllLate.cons rfl (fun K' hK' => ?_) AllLate.nil
  go_simp
  refine Calls.mono (contains_bool a ss cap ad _ (HCr.out.keep (Below.refl w.heap.size w).drew).2.2.1 HCr.out.2.2.2.1 true h2) ?_
  rintro e wn ⟨rfl, hwn⟩
  subst hwn
  refine hK'.out _ _ (fun _ h => h) ?_
  clear hK'
  try simp only [Act.put, List.setIfInBounds_toArray, List.set_cons_zero, List.set_cons_succ]
  refine anyLate_takeW (i := 19) (v := .bool false) rfl (by kernel_rfl) (by kernel_rfl) (by kernel_rfl) (fun _ _ _ h => h) (.inl ⟨by kernel_rfl, fun w _ => by go_simp⟩) ?_
  simp only [Act.put, List.setIfInBounds_toArray, List.set_cons_zero, List.set_cons_succ]
  refine anyLate_takeW (i := 20) (v := .bool false) rfl (by kernel_rfl) (by kernel_rfl) (by kernel_rfl) (fun _ _ _ h => h) (.inl ⟨by kernel_rfl, fun w _ => by go_simp⟩) ?_
  simp only [Act.put, List.setIfInBounds_toArray, List.set_cons_zero, List.set_cons_succ]
  refine anyLate_takeW (i := 21) (v := .bool false) rfl (by kernel_rfl) (by kernel_rfl) (by kernel_rfl) (fun _ _ _ h => h) (.inl ⟨by kernel_rfl, fun w _ => by go_simp⟩) ?_
  simp only [Act.put, List.setIfInBounds_toArray, List.set_cons_zero, List.set_cons_succ]
  refine anyLate_takeW (i := 22) (v := undef) rfl (by kernel_rfl) (by kernel_rfl) (by kernel_rfl) (fun _ _ _ h => h) (.inr ⟨by kernel_rfl, rfl⟩) ?_
  simp only [Act.put, List.setIfInBounds_toArray, List.set_cons_zero, List.set_cons_succ]
  refine anyLate_takeW (i := 23) (v := undef) rfl (by kernel_rfl) (by kernel_rfl) (by kernel_rfl) (fun _ _ _ h => h) (.inr ⟨by kernel_rfl, rfl⟩) ?_
  simp only [Act.put, List.setIfInBounds_toArray, List.set_cons_zero, List.set_cons_succ]
  refine anyLate_takeW (i := 24) (v := undef) rfl (by kernel_rfl) (by kernel_rfl) (by kernel_rfl) (fun _ _ _ h => h) (.inr ⟨by kernel_rfl, rfl⟩) ?_
  simp only [Act.put, List.setIfInBounds_toArray, List.set_cons_zero, List.set_cons_succ]
  refine anyLate_takeW (i := 25) (v := undef) rfl (by kernel_rfl) (by kernel_rfl) (by kernel_rfl) (fun _ _ _ h => h) (.inr ⟨by kernel_rfl, rfl⟩) ?_
  simp only [Act.put, List.setIfInBounds_toArray, List.set_cons_zero, List.set_cons_succ]
  refine anyLate_takeW (i := 26) (v := undef) rfl (by kernel_rfl) (by kernel_rfl) (by kernel_rfl) (fun _ _ _ h => h) (.inr ⟨by kernel_rfl, rfl⟩) ?_
  simp only [Act.put, List.setIfInBounds_toArray, List.set_cons_zero, List.set_cons_succ]
  refine anyLate_takeW (i := 27) (v := undef) rfl (by kernel_rfl) (by kernel_rfl) (by kernel_rfl) (fun _ _ _ h => h) (.inr ⟨by kernel_rfl, rfl⟩) ?_
  simp only [Act.put, List.setIfInBounds_toArray, List.set_cons_zero, List.set_cons_succ]
  refine anyLate_takeW (i := 28) (v := undef) rfl (by kernel_rfl) (by kernel_rfl) (by kernel_rfl) (fun _ _ _ h => h) (.inr ⟨by kernel_rfl, rfl⟩) ?_
  simp only [Act.put, List.setIfInBounds_toArray, List.set_cons_zero, List.set_cons_succ]
  refine anyLate_takeW (i := 29) (v := undef) rfl (by kernel_rfl) (by kernel_rfl) (by kernel_rfl) (fun _ _ _ h => h) (.inr ⟨by kernel_rfl, rfl⟩) ?_
  simp only [Act.put, List.setIfInBounds_toArray, List.set_cons_zero, List.set_cons_succ]
  refine anyLate_takeW (i := 30) (v := .bool false) rfl (by kernel_rfl) (by kernel_rfl) (by kernel_rfl) (fun _ _ _ h => h) (.inl ⟨by kernel_rfl, fun w _ => by go_simp⟩) ?_
  simp only [Act.put, List.setIfInBounds_toArray, List.set_cons_zero, List.set_cons_succ]
  refine anyLate_takeW (i := 31) (v := .bool false) rfl (by kernel_rfl) (by kernel_rfl) (by kernel_rfl) (fun _ _ _ h => h) (.inl ⟨by kernel_rfl, fun w _ => by go_simp⟩) ?_
  simp only [Act.put, List.setIfInBounds_toArray, List.set_cons_zero, List.set_cons_succ]
  refine anyLate_takeW (i := 32) (v := undef) rfl (by kernel_rfl) (by kernel_rfl) (by kernel_rfl) (fun _ _ _ h => h) (.inr ⟨by kernel_rfl, rfl⟩) ?_
  simp only [Act.put, List.setIfInBounds_toArray, List.set_cons_zero, List.set_cons_succ]
  refine anyLate_takeW (i := 33) (v := undef) rfl (by kernel_rfl) (by kernel_rfl) (by kernel_rfl) (fun _ _ _ h => h) (.inr ⟨by kernel_rfl, rfl⟩) ?_
  simp only [Act.put, List.setIfInBounds_toArray, List.set_cons_zero, List.set_cons_succ]
  refine anyLate_takeW (i := 34) (v := undef) rfl (by kernel_rfl) (by kernel_rfl) (by kernel_rfl) (fun _ _ _ h => h) (.inr ⟨by kernel_rfl, rfl⟩) ?_
  simp only [Act.put, List.setIfInBounds_toArray, List.set_cons_zero, List.set_cons_succ]
  refine anyLate_takeW (i := 35) (v := undef) rfl (by kernel_rfl) (by kernel_rfl) (by kernel_rfl) (fun _ _ _ h => h) (.inr ⟨by kernel_rfl, rfl⟩) ?_
  simp only [Act.put, List.setIfInBounds_toArray, List.set_cons_zero, List.set_cons_succ]
  refine anyLate_takeW (i := 36) (v := undef) rfl (by kernel_rfl) (by kernel_rfl) (by kernel_rfl) (fun _ _ _ h => h) (.inr ⟨by kernel_rfl, rfl⟩) ?_
  simp only [Act.put, List.setIfInBounds_toArray, List.set_cons_zero, List.set_cons_succ]
  refine anyLate_takeW (i := 37) (v := undef) rfl (by kernel_rfl) (by kernel_rfl) (by kernel_rfl) (fun _ _ _ h => h) (.inr ⟨by kernel_rfl, rfl⟩) ?_
  simp only [Act.put, List.setIfInBounds_toArray, List.set_cons_zero, List.set_cons_succ]
  refine anyLate_takeW (i := 38) (v := .bool false) rfl (by kernel_rfl) (by kernel_rfl) (by kernel_rfl) (fun _ _ _ h => h) (.inl ⟨by kernel_rfl, fun w _ => by go_simp⟩) ?_
  simp only [Act.put, List.setIfInBounds_toArray, List.set_cons_zero, List.set_cons_succ]
  refine anyLate_takeW (i := 39) (v := .bool false) rfl (by kernel_rfl) (by kernel_rfl) (by kernel_rfl) (fun _ _ _ h => h) (.inl ⟨by kernel_rfl, fun w _ => by go_simp⟩) ?_
  go_simp
  refine anyLate_done (by kernel_rfl) ?_ _
  obtain ⟨_, _, _, _, _, _, _, _, _, _, _, _, _, HBe⟩ := HSn
  go_wp2
  go_ret
  refine ⟨?_, HBe.out⟩
  first | rfl | simp

set_option maxRecDepth 20000 in
set_option maxHeartbeats 8000000 in
theorem met_tag (c g o cap t : Nat) (ty : Int) (a : Option Addr) (ss : List ByteArray) (fS fT : Nat → Option ByteArray) (ad : ByteArray) (vT : Value) (w : World) (hC : Crit w c ty a ss cap fS) (hS : Srv w g o ad t vT fT) (h1 : hasT ty t = true) (h2 : inS ad ss = false) (h3 : ¬ tmeet fS fT) :
    Calls Yba.prog 9 #[.pointer (some ⟨c, 0, none⟩), .pointer (some ⟨g, o, none⟩)] w fun e w' => e = .returned (.bool false) ∧ Below w.heap.size w w' := by
  have ht := hS.2.2.2.2
  have HSn : (fun w' => w'.cell? ⟨c, 0, none⟩ = some (.int .u16 ty) ∧ w'.cell? ⟨c, 1, none⟩ = some (.slice a ss.length cap) ∧ w'.cell? ⟨g, o, none⟩ = some (.string ad) ∧ w'.cell? ⟨g, o + 1, none⟩ = some (.int .u8 t) ∧ w'.cell? ⟨g, o + 3, none⟩ = some vT ∧ w'.cell? ⟨c, 2, none⟩ = some (.bool false) ∧ w'.cell? ⟨c, 3, none⟩ = some (.int .i64 0) ∧ w'.cell? ⟨c, 4, none⟩ = some (.int .i64 0) ∧ w'.cell? ⟨c, 5, none⟩ = some (.bool false) ∧ w'.cell? ⟨c, 6, none⟩ = some (.int .i64 0) ∧ w'.cell? ⟨c, 7, none⟩ = some (.int .u64 0) ∧ w'.cell? ⟨c, 8, none⟩ = some (.int .i64 0) ∧ w'.cell? ⟨c, 9, none⟩ = some (.pointer none) ∧ Hid (Below w.heap.size w w')) w.drew := by
    obtain ⟨q1, q2, q3, q4, ⟨e2, e3, e4, e5, e6, e7, e8, e9⟩, q5⟩ := hC
    exact ⟨q1, q2, hS.1, hS.2.1, hS.2.2.1, e2, e3, e4, e5, e6, e7, e8, e9, (Below.refl _ _).drew⟩
  have HCr : Hid (Crit w c ty a ss cap fS) := hC
  have HSv : Hid (Srv w g o ad t vT fT) := hS
  clear hC hS
  have H3 : Hid (¬ tmeet fS fT) := h3
  clear h3
  go_enter Yba.func9, Yba.ntmps9
  go_wp2
  refine region_late (S := fun w' => w'.cell? ⟨c, 0, none⟩ = some (.int .u16 ty) ∧ w'.cell? ⟨c, 1, none⟩ = some (.slice a ss.length cap) ∧ w'.cell? ⟨g, o, none⟩ = some (.string ad) ∧ w'.cell? ⟨g, o + 1, none⟩ = some (.int .u8 t) ∧ w'.cell? ⟨g, o + 3, none⟩ = some vT ∧ w'.cell? ⟨c, 2, none⟩ = some (.bool false) ∧ w'.cell? ⟨c, 3, none⟩ = some (.int .i64 0) ∧ w'.cell? ⟨c, 4, none⟩ = some (.int .i64 0) ∧ w'.cell? ⟨c, 5, none⟩ = some (.bool false) ∧ w'.cell? ⟨c, 6, none⟩ = some (.int .i64 0) ∧ w'.cell? ⟨c, 7, none⟩ = some (.int .u64 0) ∧ w'.cell? ⟨c, 8, none⟩ = some (.int .i64 0) ∧ w'.cell? ⟨c, 9, none⟩ = some (.pointer none) ∧ Hid (Below w.heap.size w w')) (late := fun _ => false) (by kernel_rfl) ?_
  refine anyLate_takeW (i := 0) (v := .pointer (some ⟨c, 0, none⟩)) rfl (by kernel_rfl) (by kernel_rfl) (by kernel_rfl) (fun _ _ _ h => h) (.inl ⟨by kernel_rfl, fun w _ => by go_simp⟩) ?_
  simp only [Act.put, List.setIfInBounds_toArray, List.set_cons_zero, List.set_cons_succ]
  refine anyLate_takeW (i := 1) (v := .pointer (some ⟨c, 0, none⟩)) rfl (by kernel_rfl) (by kernel_rfl) (by kernel_rfl) (fun _ _ _ h => h) (.inl ⟨by kernel_rfl, fun w _ => by go_simp⟩) ?_
  simp only [Act.put, List.setIfInBounds_toArray, List.set_cons_zero, List.set_cons_succ]
  refine anyLate_takeW (i := 2) (v := .pointer (some ⟨c, 0, none⟩)) rfl (by kernel_rfl) (by kernel_rfl) (by kernel_rfl) (fun _ _ _ h => h) (.inl ⟨by kernel_rfl, fun w _ => by go_simp⟩) ?_
  simp only [Act.put, List.setIfInBounds_toArray, List.set_cons_zero, List.set_cons_succ]
  refine anyLate_take (i := 3) (v := .int .u16 ty) rfl (by kernel_rfl) (by kernel_rfl) (by kernel_rfl) (fun _ _ _ h => h) rfl (by kernel_rfl) (.inl ⟨by kernel_rfl, fun w hSw => by (obtain ⟨s1, s2, s3, s4, s5, s6, s7, s8, s9, s10, s11, s12, s13, _⟩ := hSw; go_simp)⟩) HSn ?_
  simp only [Act.put, List.setIfInBounds_toArray, List.set_cons_zero, List.set_cons_succ]
  refine anyLate_takeW (i := 4) (v := .pointer (some ⟨g, o, none⟩)) rfl (by kernel_rfl) (by kernel_rfl) (by kernel_rfl) (fun _ _ _ h => h) (.inl ⟨by kernel_rfl, fun w _ => by go_simp⟩) ?_
  simp only [Act.put, List.setIfInBounds_toArray, List.set_cons_zero, List.set_cons_succ]
  refine anyLate_takeW (i := 5) (v := .pointer (some ⟨g, o, none⟩)) rfl (by kernel_rfl) (by kernel_rfl) (by kernel_rfl) (fun _ _ _ h => h) (.inl ⟨by kernel_rfl, fun w _ => by go_simp⟩) ?_
  simp only [Act.put, List.setIfInBounds_toArray, List.set_cons_zero, List.set_cons_succ]
  refine anyLate_takeW (i := 6) (v := .pointer (some ⟨g, o + 1, none⟩)) rfl (by kernel_rfl) (by kernel_rfl) (by kernel_rfl) (fun _ _ _ h => h) (.inl ⟨by kernel_rfl, fun w _ => by go_simp⟩) ?_
  simp only [Act.put, List.setIfInBounds_toArray, List.set_cons_zero, List.set_cons_succ]
  refine anyLate_take (i := 7) (v := .int .u8 t) rfl (by kernel_rfl) (by kernel_rfl) (by kernel_rfl) (fun _ _ _ h => h) rfl (by kernel_rfl) (.inl ⟨by kernel_rfl, fun w hSw => by (obtain ⟨s1, s2, s3, s4, s5, s6, s7, s8, s9, s10, s11, s12, s13, _⟩ := hSw; go_simp)⟩) HSn ?_
  simp only [Act.put, List.setIfInBounds_toArray, List.set_cons_zero, List.set_cons_succ]
  refine anyLate_ready (rs := [8]) (by kernel_rfl) (by simp) ?_
  refine AllLate.cons rfl (fun K' hK' => ?_) AllLate.nil
  go_simp
  refine Calls.mono (has_bool ty t ht true h1 _) ?_
  rintro e wn ⟨rfl, hwn⟩
  subst hwn
  refine hK'.out _ _ (fun _ h => h) ?_
  clear hK'
  try simp only [Act.put, List.setIfInBounds_toArray, List.set_cons_zero, List.set_cons_succ]
  refine anyLate_takeW (i := 9) (v := .bool true) rfl (by kernel_rfl) (by kernel_rfl) (by kernel_rfl) (fun _ _ _ h => h) (.inl ⟨by kernel_rfl, fun w _ => by go_simp⟩) ?_
  simp only [Act.put, List.setIfInBounds_toArray, List.set_cons_zero, List.set_cons_succ]
  refine anyLate_takeW (i := 10) (v := .pointer (some ⟨c, 0, none⟩)) rfl (by kernel_rfl) (by kernel_rfl) (by kernel_rfl) (fun _ _ _ h => h) (.inl ⟨by kernel_rfl, fun w _ => by go_simp⟩) ?_
  simp only [Act.put, List.setIfInBounds_toArray, List.set_cons_zero, List.set_cons_succ]
  refine anyLate_takeW (i := 11) (v := .pointer (some ⟨c, 0, none⟩)) rfl (by kernel_rfl) (by kernel_rfl) (by kernel_rfl) (fun _ _ _ h => h) (.inl ⟨by kernel_rfl, fun w _ => by go_simp⟩) ?_
  simp only [Act.put, List.setIfInBounds_toArray, List.set_cons_zero, List.set_cons_succ]
  refine anyLate_takeW (i := 12) (v := .pointer (some ⟨c, 1, none⟩)) rfl (by kernel_rfl) (by kernel_rfl) (by kernel_rfl) (fun _ _ _ h => h) (.inl ⟨by kernel_rfl, fun w _ => by go_simp⟩) ?_
  simp only [Act.put, List.setIfInBounds_toArray, List.set_cons_zero, List.set_cons_succ]
  refine anyLate_take (i := 13) (v := .slice a ss.length cap) rfl (by kernel_rfl) (by kernel_rfl) (by kernel_rfl) (fun _ _ _ h => h) rfl (by kernel_rfl) (.inl ⟨by kernel_rfl, fun w hSw => by (obtain ⟨s1, s2, s3, s4, s5, s6, s7, s8, s9, s10, s11, s12, s13, _⟩ := hSw; go_simp)⟩) HSn ?_
  simp only [Act.put, List.setIfInBounds_toArray, List.set_cons_zero, List.set_cons_succ]
  refine anyLate_takeW (i := 14) (v := .pointer (some ⟨g, o, none⟩)) rfl (by kernel_rfl) (by kernel_rfl) (by kernel_rfl) (fun _ _ _ h => h) (.inl ⟨by kernel_rfl, fun w _ => by go_simp⟩) ?_
  simp only [Act.put, List.setIfInBounds_toArray, List.set_cons_zero, List.set_cons_succ]
  refine anyLate_takeW (i := 15) (v := .pointer (some ⟨g, o, none⟩)) rfl (by kernel_rfl) (by kernel_rfl) (by kernel_rfl) (fun _ _ _ h => h) (.inl ⟨by kernel_rfl, fun w _ => by go_simp⟩) ?_
  simp only [Act.put, List.setIfInBounds_toArray, List.set_cons_zero, List.set_cons_succ]
  refine anyLate_takeW (i := 16) (v := .pointer (some ⟨g, o, none⟩)) rfl (by kernel_rfl) (by kernel_rfl) (by kernel_rfl) (fun _ _ _ h => h) (.inl ⟨by kernel_rfl, fun w _ => by go_simp⟩) ?_
  simp only [Act.put, List.setIfInBounds_toArray, List.set_cons_zero, List.set_cons_succ]
  refine anyLate_take (i := 17) (v := .string ad) rfl (by kernel_rfl) (by kernel_rfl) (by kernel_rfl) (fun _ _ _ h => h) rfl (by kernel_rfl) (.inl ⟨by kernel_rfl, fun w hSw => by (obtain ⟨s1, s2, s3, s4, s5, s6, s7, s8, s9, s10, s11, s12, s13, _⟩ := hSw; go_simp)⟩) HSn ?_
  simp only [Act.put, List.setIfInBounds_toArray, List.set_cons_zero, List.set_cons_succ]
  refine anyLate_ready (rs := [18]) (by kernel_rfl) (by simp) ?_
  refine AllLate.cons rfl (fun K' hK' => ?_) AllLate.nil
  go_simp
  refine Calls.mono (contains_bool a ss cap ad _ (HCr.out.keep (Below.refl w.heap.size w).drew).2.2.1 HCr.out.2.2.2.1 false h2) ?_
  rintro e wn ⟨rfl, hwn⟩
  subst hwn
  refine hK'.out _ _ (fun _ h => h) ?_
  clear hK'
  try simp only [Act.put, List.setIfInBounds_toArray, List.set_cons_zero, List.set_cons_succ]
  refine anyLate_takeW (i := 19) (v := .bool true) rfl (by kernel_rfl) (by kernel_rfl) (by kernel_rfl) (fun _ _ _ h => h) (.inl ⟨by kernel_rfl, fun w _ => by go_simp⟩) ?_
  simp only [Act.put, List.setIfInBounds_toArray, List.set_cons_zero, List.set_cons_succ]
  refine anyLate_takeW (i := 20) (v := .bool true) rfl (by kernel_rfl) (by kernel_rfl) (by kernel_rfl) (fun _ _ _ h => h) (.inl ⟨by kernel_rfl, fun w _ => by go_simp⟩) ?_
  simp only [Act.put, List.setIfInBounds_toArray, List.set_cons_zero, List.set_cons_succ]
  refine anyLate_takeW (i := 21) (v := .bool true) rfl (by kernel_rfl) (by kernel_rfl) (by kernel_rfl) (fun _ _ _ h => h) (.inl ⟨by kernel_rfl, fun w _ => by go_simp⟩) ?_
  simp only [Act.put, List.setIfInBounds_toArray, List.set_cons_zero, List.set_cons_succ]
  refine anyLate_takeW (i := 22) (v := .pointer (some ⟨c, 0, none⟩)) rfl (by kernel_rfl) (by kernel_rfl) (by kernel_rfl) (fun _ _ _ h => h) (.inl ⟨by kernel_rfl, fun w _ => by go_simp⟩) ?_
  simp only [Act.put, List.setIfInBounds_toArray, List.set_cons_zero, List.set_cons_succ]
  refine anyLate_takeW (i := 23) (v := .pointer (some ⟨c, 0, none⟩)) rfl (by kernel_rfl) (by kernel_rfl) (by kernel_rfl) (fun _ _ _ h => h) (.inl ⟨by kernel_rfl, fun w _ => by go_simp⟩) ?_
  simp only [Act.put, List.setIfInBounds_toArray, List.set_cons_zero, List.set_cons_succ]
  refine anyLate_takeW (i := 24) (v := .pointer (some ⟨c, 10, none⟩)) rfl (by kernel_rfl) (by kernel_rfl) (by kernel_rfl) (fun _ _ _ h => h) (.inl ⟨by kernel_rfl, fun w _ => by go_simp⟩) ?_
  simp only [Act.put, List.setIfInBounds_toArray, List.set_cons_zero, List.set_cons_succ]
  refine anyLate_takeW (i := 25) (v := .pointer (some ⟨g, o, none⟩)) rfl (by kernel_rfl) (by kernel_rfl) (by kernel_rfl) (fun _ _ _ h => h) (.inl ⟨by kernel_rfl, fun w _ => by go_simp⟩) ?_
  simp only [Act.put, List.setIfInBounds_toArray, List.set_cons_zero, List.set_cons_succ]
  refine anyLate_takeW (i := 26) (v := .pointer (some ⟨g, o, none⟩)) rfl (by kernel_rfl) (by kernel_rfl) (by kernel_rfl) (fun _ _ _ h => h) (.inl ⟨by kernel_rfl, fun w _ => by go_simp⟩) ?_
  simp only [Act.put, List.setIfInBounds_toArray, List.set_cons_zero, List.set_cons_succ]
  refine anyLate_takeW (i := 27) (v := .pointer (some ⟨g, o + 3, none⟩)) rfl (by kernel_rfl) (by kernel_rfl) (by kernel_rfl) (fun _ _ _ h => h) (.inl ⟨by kernel_rfl, fun w _ => by go_simp⟩) ?_
  simp only [Act.put, List.setIfInBounds_toArray, List.set_cons_zero, List.set_cons_succ]
  refine anyLate_take (i := 28) (v := vT) rfl (by kernel_rfl) (by kernel_rfl) (by kernel_rfl) (fun _ _ _ h => h) rfl (by kernel_rfl) (.inl ⟨by kernel_rfl, fun w hSw => by (obtain ⟨s1, s2, s3, s4, s5, s6, s7, s8, s9, s10, s11, s12, s13, _⟩ := hSw; go_simp)⟩) HSn ?_
  simp only [Act.put, List.setIfInBounds_toArray, List.set_cons_zero, List.set_cons_succ]
  refine anyLate_ready (rs := [29]) (by kernel_rfl) (by simp) ?_
  refine AllLate.cons rfl (fun K' hK' => ?_) AllLate.nil
  go_simp
  refine Calls.mono (tm_bool c 10 fS fT vT _ (HCr.out.keep (Below.refl w.heap.size w).drew).2.2.2.2.2 (HSv.out.keep (Below.refl w.heap.size w).drew).2.2.2.1 false ⟨fun h => (by cases h), fun h => absurd h H3.out⟩) ?_
  rintro e w2 ⟨rfl, hB2⟩
  have HSn2 := MetS.keep (c := c) (g := g) (o := o) (ty := ty) (sl := .slice a ss.length cap) (vT := vT) (ad := ad) (t := t) (w0 := w) (w := w.drew) HSn hB2
  unfold MetS at HSn2
  clear HSn
  have HSn := HSn2
  clear HSn2
  refine hK'.out _ _ (fun _ _ => HSn) ?_
  clear hK' hB2
  try simp only [Act.put, List.setIfInBounds_toArray, List.set_cons_zero, List.set_cons_succ]
  refine anyLate_takeW (i := 30) (v := .bool false) rfl (by kernel_rfl) (by kernel_rfl) (by kernel_rfl) (fun _ _ _ h => h) (.inl ⟨by kernel_rfl, fun w _ => by go_simp⟩) ?_
  simp only [Act.put, List.setIfInBounds_toArray, List.set_cons_zero, List.set_cons_succ]
  refine anyLate_takeW (i := 31) (v := .bool false) rfl (by kernel_rfl) (by kernel_rfl) (by kernel_rfl) (fun _ _ _ h => h) (.inl ⟨by kernel_rfl, fun w _ => by go_simp⟩) ?_
  simp only [Act.put, List.setIfInBounds_toArray, List.set_cons_zero, List.set_cons_succ]
  refine anyLate_takeW (i := 32) (v := undef) rfl (by kernel_rfl) (by kernel_rfl) (by kernel_rfl) (fun _ _ _ h => h) (.inr ⟨by kernel_rfl, rfl⟩) ?_
  simp only [Act.put, List.setIfInBounds_toArray, List.set_cons_zero, List.set_cons_succ]
  refine anyLate_takeW (i := 33) (v := undef) rfl (by kernel_rfl) (by kernel_rfl) (by kernel_rfl) (fun _ _ _ h => h) (.inr ⟨by kernel_rfl, rfl⟩) ?_
  simp only [Act.put, List.setIfInBounds_toArray, List.set_cons_zero, List.set_cons_succ]
  refine anyLate_takeW (i := 34) (v := undef) rfl (by kernel_rfl) (by kernel_rfl) (by kernel_rfl) (fun _ _ _ h => h) (.inr ⟨by kernel_rfl, rfl⟩) ?_
  simp only [Act.put, List.setIfInBounds_toArray, List.set_cons_zero, List.set_cons_succ]
  refine anyLate_takeW (i := 35) (v := undef) rfl (by kernel_rfl) (by kernel_rfl) (by kernel_rfl) (fun _ _ _ h => h) (.inr ⟨by kernel_rfl, rfl⟩) ?_
  simp only [Act.put, List.setIfInBounds_toArray, List.set_cons_zero, List.set_cons_succ]
  refine anyLate_takeW (i := 36) (v := undef) rfl (by kernel_rfl) (by kernel_rfl) (by kernel_rfl) (fun _ _ _ h => h) (.inr ⟨by kernel_rfl, rfl⟩) ?_
  simp only [Act.put, List.setIfInBounds_toArray, List.set_cons_zero, List.set_cons_succ]
  refine anyLate_takeW (i := 37) (v := undef) rfl (by kernel_rfl) (by kernel_rfl) (by kernel_rfl) (fun _ _ _ h => h) (.inr ⟨by kernel_rfl, rfl⟩) ?_
  simp only [Act.put, List.setIfInBounds_toArray, List.set_cons_zero, List.set_cons_succ]
  refine anyLate_takeW (i := 38) (v := .bool false) rfl (by kernel_rfl) (by kernel_rfl) (by kernel_rfl) (fun _ _ _ h => h) (.inl ⟨by kernel_rfl, fun w _ => by go_simp⟩) ?_
  simp only [Act.put, List.setIfInBounds_toArray, List.set_cons_zero, List.set_cons_succ]
  refine anyLate_takeW (i := 39) (v := .bool false) rfl (by kernel_rfl) (by kernel_rfl) (by kernel_rfl) (fun _ _ _ h => h) (.inl ⟨by kernel_rfl, fun w _ => by go_simp⟩) ?_
  go_simp
  refine anyLate_done (by kernel_rfl) ?_ _
  obtain ⟨_, _, _, _, _, _, _, _, _, _, _, _, _, HBe⟩ := HSn
  go_wp2
  go_ret
  refine ⟨?_, HBe.out⟩
  first | rfl | simp

set_option maxRecDepth 20000 in
set_option maxHeartbeats 8000000 in
theorem met_yes (c g o cap t : Nat) (ty : Int) (a : Option Addr) (ss : List ByteArray) (fS fT : Nat → Option ByteArray) (ad : ByteArray) (vT : Value) (w : World) (hC : Crit w c ty a ss cap fS) (hS : Srv w g o ad t vT fT) (h1 : hasT ty t = true) (h2 : inS ad ss = false) (h3 : tmeet fS fT) :
    Calls Yba.prog 9 #[.pointer (some ⟨c, 0, none⟩), .pointer (some ⟨g, o, none⟩)] w fun e w' => e = .returned (.bool true) ∧ Below w.heap.size w w' := by
  have ht := hS.2.2.2.2
  have HSn : (fun w' => w'.cell? ⟨c, 0, none⟩ = some (.int .u16 ty) ∧ w'.cell? ⟨c, 1, none⟩ = some (.slice a ss.length cap) ∧ w'.cell? ⟨g, o, none⟩ = some (.string ad) ∧ w'.cell? ⟨g, o + 1, none⟩ = some (.int .u8 t) ∧ w'.cell? ⟨g, o + 3, none⟩ = some vT ∧ w'.cell? ⟨c, 2, none⟩ = some (.bool false) ∧ w'.cell? ⟨c, 3, none⟩ = some (.int .i64 0) ∧ w'.cell? ⟨c, 4, none⟩ = some (.int .i64 0) ∧ w'.cell? ⟨c, 5, none⟩ = some (.bool false) ∧ w'.cell? ⟨c, 6, none⟩ = some (.int .i64 0) ∧ w'.cell? ⟨c, 7, none⟩ = some (.int .u64 0) ∧ w'.cell? ⟨c, 8, none⟩ = some (.int .i64 0) ∧ w'.cell? ⟨c, 9, none⟩ = some (.pointer none) ∧ Hid (Below w.heap.size w w')) w.drew := by
    obtain ⟨q1, q2, q3, q4, ⟨e2, e3, e4, e5, e6, e7, e8, e9⟩, q5⟩ := hC
    exact ⟨q1, q2, hS.1, hS.2.1, hS.2.2.1, e2, e3, e4, e5, e6, e7, e8, e9, (Below.refl _ _).drew⟩
  have HCr : Hid (Crit w c ty a ss cap fS) := hC
  have HSv : Hid (Srv w g o ad t vT fT) := hS
  clear hC hS
  have H3 : Hid (tmeet fS fT) := h3
  clear h3
  go_enter Yba.func9, Yba.ntmps9
  go_wp2
  refine region_late (S := fun w' => w'.cell? ⟨c, 0, none⟩ = some (.int .u16 ty) ∧ w'.cell? ⟨c, 1, none⟩ = some (.slice a ss.length cap) ∧ w'.cell? ⟨g, o, none⟩ = some (.string ad) ∧ w'.cell? ⟨g, o + 1, none⟩ = some (.int .u8 t) ∧ w'.cell? ⟨g, o + 3, none⟩ = some vT ∧ w'.cell? ⟨c, 2, none⟩ = some (.bool false) ∧ w'.cell? ⟨c, 3, none⟩ = some (.int .i64 0) ∧ w'.cell? ⟨c, 4, none⟩ = some (.int .i64 0) ∧ w'.cell? ⟨c, 5, none⟩ = some (.bool false) ∧ w'.cell? ⟨c, 6, none⟩ = some (.int .i64 0) ∧ w'.cell? ⟨c, 7, none⟩ = some (.int .u64 0) ∧ w'.cell? ⟨c, 8, none⟩ = some (.int .i64 0) ∧ w'.cell? ⟨c, 9, none⟩ = some (.pointer none) ∧ Hid (Below w.heap.size w w')) (late := fun _ => false) (by kernel_rfl) ?_
  refine anyLate_takeW (i := 0) (v := .pointer (some ⟨c, 0, none⟩)) rfl (by kernel_rfl) (by kernel_rfl) (by kernel_rfl) (fun _ _ _ h => h) (.inl ⟨by kernel_rfl, fun w _ => by go_simp⟩) ?_
  simp only [Act.put, List.setIfInBounds_toArray, List.set_cons_zero, List.set_cons_succ]
  refine anyLate_takeW (i := 1) (v := .pointer (some ⟨c, 0, none⟩)) rfl (by kernel_rfl) (by kernel_rfl) (by kernel_rfl) (fun _ _ _ h => h) (.inl ⟨by kernel_rfl, fun w _ => by go_simp⟩) ?_
  simp only [Act.put, List.setIfInBounds_toArray, List.set_cons_zero, List.set_cons_succ]
  refine anyLate_takeW (i := 2) (v := .pointer (some ⟨c, 0, none⟩)) rfl (by kernel_rfl) (by kernel_rfl) (by kernel_rfl) (fun _ _ _ h => h) (.inl ⟨by kernel_rfl, fun w _ => by go_simp⟩) ?_
  simp only [Act.put, List.setIfInBounds_toArray, List.set_cons_zero, List.set_cons_succ]
  refine anyLate_take (i := 3) (v := .int .u16 ty) rfl (by kernel_rfl) (by kernel_rfl) (by kernel_rfl) (fun _ _ _ h => h) rfl (by kernel_rfl) (.inl ⟨by kernel_rfl, fun w hSw => by (obtain ⟨s1, s2, s3, s4, s5, s6, s7, s8, s9, s10, s11, s12, s13, _⟩ := hSw; go_simp)⟩) HSn ?_
  simp only [Act.put, List.setIfInBounds_toArray, List.set_cons_zero, List.set_cons_succ]
  refine anyLate_takeW (i := 4) (v := .pointer (some ⟨g, o, none⟩)) rfl (by kernel_rfl) (by kernel_rfl) (by kernel_rfl) (fun _ _ _ h => h) (.inl ⟨by kernel_rfl, fun w _ => by go_simp⟩) ?_
  simp only [Act.put, List.setIfInBounds_toArray, List.set_cons_zero, List.set_cons_succ]
  refine anyLate_takeW (i := 5) (v := .pointer (some ⟨g, o, none⟩)) rfl (by kernel_rfl) (by kernel_rfl) (by kernel_rfl) (fun _ _ _ h => h) (.inl ⟨by kernel_rfl, fun w _ => by go_simp⟩) ?_
  simp only [Act.put, List.setIfInBounds_toArray, List.set_cons_zero, List.set_cons_succ]
  refine anyLate_takeW (i := 6) (v := .pointer (some ⟨g, o + 1, none⟩)) rfl (by kernel_rfl) (by kernel_rfl) (by kernel_rfl) (fun _ _ _ h => h) (.inl ⟨by kernel_rfl, fun w _ => by go_simp⟩) ?_
  simp only [Act.put, List.setIfInBounds_toArray, List.set_cons_zero, List.set_cons_succ]
  refine anyLate_take (i := 7) (v := .int .u8 t) rfl (by kernel_rfl) (by kernel_rfl) (by kernel_rfl) (fun _ _ _ h => h) rfl (by kernel_rfl) (.inl ⟨by kernel_rfl, fun w hSw => by (obtain ⟨s1, s2, s3, s4, s5, s6, s7, s8, s9, s10, s11, s12, s13, _⟩ := hSw; go_simp)⟩) HSn ?_
  simp only [Act.put, List.setIfInBounds_toArray, List.set_cons_zero, List.set_cons_succ]
  refine anyLate_ready (rs := [8]) (by kernel_rfl) (by simp) ?_
  refine AllLate.cons rfl (fun K' hK' => ?_) AllLate.nil
  go_simp
  refine Calls.mono (has_bool ty t ht true h1 _) ?_
  rintro e wn ⟨rfl, hwn⟩
  subst hwn
  refine hK'.out _ _ (fun _ h => h) ?_
  clear hK'
  try simp only [Act.put, List.setIfInBounds_toArray, List.set_cons_zero, List.set_cons_succ]
  refine anyLate_takeW (i := 9) (v := .bool true) rfl (by kernel_rfl) (by kernel_rfl) (by kernel_rfl) (fun _ _ _ h => h) (.inl ⟨by kernel_rfl, fun w _ => by go_simp⟩) ?_
  simp only [Act.put, List.setIfInBounds_toArray, List.set_cons_zero, List.set_cons_succ]
  refine anyLate_takeW (i := 10) (v := .pointer (some ⟨c, 0, none⟩)) rfl (by kernel_rfl) (by kernel_rfl) (by kernel_rfl) (fun _ _ _ h => h) (.inl ⟨by kernel_rfl, fun w _ => by go_simp⟩) ?_
  simp only [Act.put, List.setIfInBounds_toArray, List.set_cons_zero, List.set_cons_succ]
  refine anyLate_takeW (i := 11) (v := .pointer (some ⟨c, 0, none⟩)) rfl (by kernel_rfl) (by kernel_rfl) (by kernel_rfl) (fun _ _ _ h => h) (.inl ⟨by kernel_rfl, fun w _ => by go_simp⟩) ?_
  simp only [Act.put, List.setIfInBounds_toArray, List.set_cons_zero, List.set_cons_succ]
  refine anyLate_takeW (i := 12) (v := .pointer (some ⟨c, 1, none⟩)) rfl (by kernel_rfl) (by kernel_rfl) (by kernel_rfl) (fun _ _ _ h => h) (.inl ⟨by kernel_rfl, fun w _ => by go_simp⟩) ?_
  simp only [Act.put, List.setIfInBounds_toArray, List.set_cons_zero, List.set_cons_succ]
  refine anyLate_take (i := 13) (v := .slice a ss.length cap) rfl (by kernel_rfl) (by kernel_rfl) (by kernel_rfl) (fun _ _ _ h => h) rfl (by kernel_rfl) (.inl ⟨by kernel_rfl, fun w hSw => by (obtain ⟨s1, s2, s3, s4, s5, s6, s7, s8, s9, s10, s11, s12, s13, _⟩ := hSw; go_simp)⟩) HSn ?_
  simp only [Act.put, List.setIfInBounds_toArray, List.set_cons_zero, List.set_cons_succ]
  refine anyLate_takeW (i := 14) (v := .pointer (some ⟨g, o, none⟩)) rfl (by kernel_rfl) (by kernel_rfl) (by kernel_rfl) (fun _ _ _ h => h) (.inl ⟨by kernel_rfl, fun w _ => by go_simp⟩) ?_
  simp only [Act.put, List.setIfInBounds_toArray, List.set_cons_zero, List.set_cons_succ]
  refine anyLate_takeW (i := 15) (v := .pointer (some ⟨g, o, none⟩)) rfl (by kernel_rfl) (by kernel_rfl) (by kernel_rfl) (fun _ _ _ h => h) (.inl ⟨by kernel_rfl, fun w _ => by go_simp⟩) ?_
  simp only [Act.put, List.setIfInBounds_toArray, List.set_cons_zero, List.set_cons_succ]
  refine anyLate_takeW (i := 16) (v := .pointer (some ⟨g, o, none⟩)) rfl (by kernel_rfl) (by kernel_rfl) (by kernel_rfl) (fun _ _ _ h => h) (.inl ⟨by kernel_rfl, fun w _ => by go_simp⟩) ?_
  simp only [Act.put, List.setIfInBounds_toArray, List.set_cons_zero, List.set_cons_succ]
  refine anyLate_take (i := 17) (v := .string ad) rfl (by kernel_rfl) (by kernel_rfl) (by kernel_rfl) (fun _ _ _ h => h) rfl (by kernel_rfl) (.inl ⟨by kernel_rfl, fun w hSw => by (obtain ⟨s1, s2, s3, s4, s5, s6, s7, s8, s9, s10, s11, s12, s13, _⟩ := hSw; go_simp)⟩) HSn ?_
  simp only [Act.put, List.setIfInBounds_toArray, List.set_cons_zero, List.set_cons_succ]
  refine anyLate_ready (rs := [18]) (by kernel_rfl) (by simp) ?_
  refine AllLate.cons rfl (fun K' hK' => ?_) AllLate.nil
  go_simp
  refine Calls.mono (contains_bool a ss cap ad _ (HCr.out.keep (Below.refl w.heap.size w).drew).2.2.1 HCr.out.2.2.2.1 false h2) ?_
  rintro e wn ⟨rfl, hwn⟩
  subst hwn
  refine hK'.out _ _ (fun _ h => h) ?_
  clear hK'
  try simp only [Act.put, List.setIfInBounds_toArray, List.set_cons_zero, List.set_cons_succ]
  refine anyLate_takeW (i := 19) (v := .bool true) rfl (by kernel_rfl) (by kernel_rfl) (by kernel_rfl) (fun _ _ _ h => h) (.inl ⟨by kernel_rfl, fun w _ => by go_simp⟩) ?_
  simp only [Act.put, List.setIfInBounds_toArray, List.set_cons_zero, List.set_cons_succ]
  refine anyLate_takeW (i := 20) (v := .bool true) rfl (by kernel_rfl) (by kernel_rfl) (by kernel_rfl) (fun _ _ _ h => h) (.inl ⟨by kernel_rfl, fun w _ => by go_simp⟩) ?_
  simp only [Act.put, List.setIfInBounds_toArray, List.set_cons_zero, List.set_cons_succ]
  refine anyLate_takeW (i := 21) (v := .bool true) rfl (by kernel_rfl) (by kernel_rfl) (by kernel_rfl) (fun _ _ _ h => h) (.inl ⟨by kernel_rfl, fun w _ => by go_simp⟩) ?_
  simp only [Act.put, List.setIfInBounds_toArray, List.set_cons_zero, List.set_cons_succ]
  refine anyLate_takeW (i := 22) (v := .pointer (some ⟨c, 0, none⟩)) rfl (by kernel_rfl) (by kernel_rfl) (by kernel_rfl) (fun _ _ _ h => h) (.inl ⟨by kernel_rfl, fun w _ => by go_simp⟩) ?_
  simp only [Act.put, List.setIfInBounds_toArray, List.set_cons_zero, List.set_cons_succ]
  refine anyLate_takeW (i := 23) (v := .pointer (some ⟨c, 0, none⟩)) rfl (by kernel_rfl) (by kernel_rfl) (by kernel_rfl) (fun _ _ _ h => h) (.inl ⟨by kernel_rfl, fun w _ => by go_simp⟩) ?_
  simp only [Act.put, List.setIfInBounds_toArray, List.set_cons_zero, List.set_cons_succ]
  refine anyLate_takeW (i := 24) (v := .pointer (some ⟨c, 10, none⟩)) rfl (by kernel_rfl) (by kernel_rfl) (by kernel_rfl) (fun _ _ _ h => h) (.inl ⟨by kernel_rfl, fun w _ => by go_simp⟩) ?_
  simp only [Act.put, List.setIfInBounds_toArray, List.set_cons_zero, List.set_cons_succ]
  refine anyLate_takeW (i := 25) (v := .pointer (some ⟨g, o, none⟩)) rfl (by kernel_rfl) (by kernel_rfl) (by kernel_rfl) (fun _ _ _ h => h) (.inl ⟨by kernel_rfl, fun w _ => by go_simp⟩) ?_
  simp only [Act.put, List.setIfInBounds_toArray, List.set_cons_zero, List.set_cons_succ]
  refine anyLate_takeW (i := 26) (v := .pointer (some ⟨g, o, none⟩)) rfl (by kernel_rfl) (by kernel_rfl) (by kernel_rfl) (fun _ _ _ h => h) (.inl ⟨by kernel_rfl, fun w _ => by go_simp⟩) ?_
  simp only [Act.put, List.setIfInBounds_toArray, List.set_cons_zero, List.set_cons_succ]
  refine anyLate_takeW (i := 27) (v := .pointer (some ⟨g, o + 3, none⟩)) rfl (by kernel_rfl) (by kernel_rfl) (by kernel_rfl) (fun _ _ _ h => h) (.inl ⟨by kernel_rfl, fun w _ => by go_simp⟩) ?_
  simp only [Act.put, List.setIfInBounds_toArray, List.set_cons_zero, List.set_cons_succ]
  refine anyLate_take (i := 28) (v := vT) rfl (by kernel_rfl) (by kernel_rfl) (by kernel_rfl) (fun _ _ _ h => h) rfl (by kernel_rfl) (.inl ⟨by kernel_rfl, fun w hSw => by (obtain ⟨s1, s2, s3, s4, s5, s6, s7, s8, s9, s10, s11, s12, s13, _⟩ := hSw; go_simp)⟩) HSn ?_
  simp only [Act.put, List.setIfInBounds_toArray, List.set_cons_zero, List.set_cons_succ]
  refine anyLate_ready (rs := [29]) (by kernel_rfl) (by simp) ?_
  refine AllLate.cons rfl (fun K' hK' => ?_) AllLate.nil
  go_simp
  refine Calls.mono (tm_bool c 10 fS fT vT _ (HCr.out.keep (Below.refl w.heap.size w).drew).2.2.2.2.2 (HSv.out.keep (Below.refl w.heap.size w).drew).2.2.2.1 true ⟨fun _ => H3.out, fun _ => rfl⟩) ?_
  rintro e w2 ⟨rfl, hB2⟩
  have HSn2 := MetS.keep (c := c) (g := g) (o := o) (ty := ty) (sl := .slice a ss.length cap) (vT := vT) (ad := ad) (t := t) (w0 := w) (w := w.drew) HSn hB2
  unfold MetS at HSn2
  clear HSn
  have HSn := HSn2
  clear HSn2
  refine hK'.out _ _ (fun _ _ => HSn) ?_
  clear hK' hB2
  try simp only [Act.put, List.setIfInBounds_toArray, List.set_cons_zero, List.set_cons_succ]
  refine anyLate_takeW (i := 30) (v := .bool true) rfl (by kernel_rfl) (by kernel_rfl) (by kernel_rfl) (fun _ _ _ h => h) (.inl ⟨by kernel_rfl, fun w _ => by go_simp⟩) ?_
  simp only [Act.put, List.setIfInBounds_toArray, List.set_cons_zero, List.set_cons_succ]
  refine anyLate_takeW (i := 31) (v := .bool true) rfl (by kernel_rfl) (by kernel_rfl) (by kernel_rfl) (fun _ _ _ h => h) (.inl ⟨by kernel_rfl, fun w _ => by go_simp⟩) ?_
  simp only [Act.put, List.setIfInBounds_toArray, List.set_cons_zero, List.set_cons_succ]
  refine anyLate_takeW (i := 32) (v := .pointer (some ⟨c, 0, none⟩)) rfl (by kernel_rfl) (by kernel_rfl) (by kernel_rfl) (fun _ _ _ h => h) (.inl ⟨by kernel_rfl, fun w _ => by go_simp⟩) ?_
  simp only [Act.put, List.setIfInBounds_toArray, List.set_cons_zero, List.set_cons_succ]
  refine anyLate_takeW (i := 33) (v := .pointer (some ⟨c, 0, none⟩)) rfl (by kernel_rfl) (by kernel_rfl) (by kernel_rfl) (fun _ _ _ h => h) (.inl ⟨by kernel_rfl, fun w _ => by go_simp⟩) ?_
  simp only [Act.put, List.setIfInBounds_toArray, List.set_cons_zero, List.set_cons_succ]
  refine anyLate_takeW (i := 34) (v := .pointer (some ⟨c, 2, none⟩)) rfl (by kernel_rfl) (by kernel_rfl) (by kernel_rfl) (fun _ _ _ h => h) (.inl ⟨by kernel_rfl, fun w _ => by go_simp⟩) ?_
  simp only [Act.put, List.setIfInBounds_toArray, List.set_cons_zero, List.set_cons_succ]
  refine anyLate_take (i := 35) (v := .agg #[.bool false, .int .i64 0, .int .i64 0, .bool false, .int .i64 0, .int .u64 0, .int .i64 0, .pointer none]) rfl (by kernel_rfl) (by kernel_rfl) (by kernel_rfl) (fun _ _ _ h => h) rfl (by kernel_rfl) (.inl ⟨by kernel_rfl, fun w hSw => by (obtain ⟨s1, s2, s3, s4, s5, s6, s7, s8, s9, s10, s11, s12, s13, _⟩ := hSw; go_simp)⟩) HSn ?_
  simp only [Act.put, List.setIfInBounds_toArray, List.set_cons_zero, List.set_cons_succ]
  refine anyLate_takeW (i := 36) (v := .pointer (some ⟨g, o, none⟩)) rfl (by kernel_rfl) (by kernel_rfl) (by kernel_rfl) (fun _ _ _ h => h) (.inl ⟨by kernel_rfl, fun w _ => by go_simp⟩) ?_
  simp only [Act.put, List.setIfInBounds_toArray, List.set_cons_zero, List.set_cons_succ]
  refine anyLate_ready (rs := [37]) (by kernel_rfl) (by simp) ?_
  refine AllLate.cons rfl (fun K' hK' => ?_) AllLate.nil
  go_simp
  refine Calls.mono (fresh_any _ _) ?_
  rintro e w3 ⟨rfl, hB3⟩
  have HSn2 := MetS.keep (c := c) (g := g) (o := o) (ty := ty) (sl := .slice a ss.length cap) (vT := vT) (ad := ad) (t := t) (w0 := w) (w := w2) HSn hB3
  unfold MetS at HSn2
  clear HSn
  have HSn := HSn2
  clear HSn2
  refine hK'.out _ _ (fun _ _ => HSn) ?_
  clear hK' hB3
  try simp only [Act.put, List.setIfInBounds_toArray, List.set_cons_zero, List.set_cons_succ]
  refine anyLate_takeW (i := 38) (v := .bool true) rfl (by kernel_rfl) (by kernel_rfl) (by kernel_rfl) (fun _ _ _ h => h) (.inl ⟨by kernel_rfl, fun w _ => by go_simp⟩) ?_
  simp only [Act.put, List.setIfInBounds_toArray, List.set_cons_zero, List.set_cons_succ]
  refine anyLate_takeW (i := 39) (v := .bool true) rfl (by kernel_rfl) (by kernel_rfl) (by kernel_rfl) (fun _ _ _ h => h) (.inl ⟨by kernel_rfl, fun w _ => by go_simp⟩) ?_
  go_simp
  refine anyLate_done (by kernel_rfl) ?_ _
  obtain ⟨_, _, _, _, _, _, _, _, _, _, _, _, _, HBe⟩ := HSn
  go_wp2
  go_ret
  refine ⟨?_, HBe.out⟩
  first | rfl | simp

theorem met_any (c g o cap t : Nat) (ty : Int) (a : Option Addr) (ss : List ByteArray) (fS fT : Nat → Option ByteArray) (ad : ByteArray) (vT : Value) (w : World) (hC : Crit w c ty a ss cap fS) (hS : Srv w g o ad t vT fT) :
    Calls Yba.prog 9 #[.pointer (some ⟨c, 0, none⟩), .pointer (some ⟨g, o, none⟩)] w fun e w' => e = .returned (.bool (meets ty ss fS ad t fT)) ∧ Below w.heap.size w w' := by
  unfold meets
  cases h1 : hasT ty t with
  | false => simpa using met_no c g o cap t ty a ss fS fT ad vT w hC hS h1
  | true =>
    cases h2 : inS ad ss with
    | true => simpa using met_in c g o cap t ty a ss fS fT ad vT w hC hS h1 h2
    | false =>
      by_cases h3 : tmeet fS fT
      · simpa [h3] using met_yes c g o cap t ty a ss fS fT ad vT w hC hS h1 h2 h3
      · simpa [h3] using met_tag c g o cap t ty a ss fS fT ad vT w hC hS h1 h2 h3
end Go.Proofs.Ybulkamrg
