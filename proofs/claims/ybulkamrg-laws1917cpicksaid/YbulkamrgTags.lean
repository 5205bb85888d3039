/- typeSet.has, freshness.fresh, TagSet.matches. -/
import Derived.Test.YbulkamrgSlices
namespace Go.Proofs.Ybulkamrg
open Go.RowKit Go.Maps Go.WideMaps

/-- The bit of a type. -/
def hasT (ty : Int) (t : Nat) : Bool := bits .and .u16 ty (IntKind.u16.wrap (2 ^ t)) != 0
set_option maxRecDepth 20000 in
set_option maxHeartbeats 2000000 in
theorem has_any (ty : Int) (t : Nat) (ht : t < 6) (w : World) :
    Calls Yba.prog 14 #[.int .u16 ty, .int .u8 t] w fun e w' => e = .returned (.bool (hasT ty t)) ∧ w' = w := by
  go_enter Yba.func14, Yba.ntmps14
  go_wp2
  go_ret
  exact ⟨rfl, rfl⟩

/-- The zero freshness. -/
def F0 : Array Value := #[.bool false, .int .i64 0, .int .i64 0, .bool false, .int .i64 0, .int .u64 0, .int .i64 0, .pointer none]
set_option maxRecDepth 20000 in
set_option maxHeartbeats 2000000 in
theorem fresh_any (p : Value) (w : World) : Calls Yba.prog 17 #[.agg F0, p] w fun e w' => e = .returned (.bool true) ∧ Below w.heap.size w w' := by
  unfold F0
  go_enter Yba.func17, Yba.ntmps17
  go_wp2
  generalize hW : w.alloc _ = W
  have c0 : W.cell? ⟨w.heap.size, 0, none⟩ = some (.bool false) := by
    rw [← hW, cell_of_row _ _ 0 _ 53 (0, 0) (MapKept.heap_alloc _ _).1]; rfl
  have HB : Hid (Below w.heap.size w W) := by rw [← hW]; exact (Below.refl _ _).alloc (Nat.le_refl _) _
  clear hW
  refine wp_region_still_lit (by kernel_rfl) (by kernel_rfl) ?_
  change wpStill _ _ W.drew _ _ _
  repeat still_step
  refine wpStill_nil ?_
  change Exit.then _ _ _ _ W.drew
  go_wp2
  go_ret
  exact ⟨rfl, HB.out.drew⟩

/-- Does a server with the tags fT match the set fS? -/
def tmeet (fS fT : Nat → Option ByteArray) : Prop := ∀ i, i < 6 → (fS i).isSome = true → fT i = fS i

theorem wpList_next_tags {ops : Array Oper} {rest : List Oper} {o : Oper} {a : Act} {Q : Exit → Act → World → Prop} (w : World) (hg : o.guard = none) (it : Operand) (hop : o.op = Op.next it false)
    (b r n : Nat) (D : DataW Unit) (f : Nat → Option ByteArray) (hF : FD D f) (left : Lit → Bool) (cnt : Nat) (hle : ∀ l, left l = true → Maps.has D l = true)
    (hit : a.eval it = .pointer (some ⟨r, 0, none⟩)) (h : w.ranges Yba.prog 9 (plainElem Yba.prog 9) b r n D left cnt)
    (hDone : (∀ kl, left kl = false) → wpList Yba.prog ops Q rest (a.put o.dst (.tuple #[.bool false])) w)
    (hMore : ∀ (i : Nat) (v : ByteArray) (w' : World) (cnt' : Nat), i < 6 → f i = some v → left (kL i) = true → w'.ranges Yba.prog 9 (plainElem Yba.prog 9) b r n D (fun z => left z && !z.sameKey (kL i)) cnt' → cnt' < cnt →
      w.grownBy w' (some r) → w'.heap.size = w.heap.size → (Instr.entry (.pointer (some ⟨r, 0, none⟩))).run Yba.prog w' = .ok (.tuple #[.string (ks i), .string v]) w' → wpList Yba.prog ops Q rest (a.put o.dst (.tuple #[.bool true, .string (ks i), .string v])) w') :
    wpList Yba.prog ops Q (o :: rest) a w := by
  refine wpList_next_ranges w hg it hop 9 keyed9 (plainElem Yba.prog 9) Value.string Value.string (fun key kl hkey => ?_) (fun v y hv => ?_) b r n D left cnt hit h (fun _ hl => hDone hl) ?_
  · cases key <;> simp [keyOf, Yba.underlying9, mapKey] at hkey
    exact ⟨_, rfl⟩
  · obtain ⟨s, rfl, _⟩ := plainElem_string_inv Yba.underlying9 hv
    exact ⟨s, rfl⟩
  · intro x c kl y w' cnt' hkey hlk hv hat hrg hlt hgr hsz hen
    obtain ⟨i, hi, rfl⟩ := hF.keys kl (hle kl hlk)
    have hx : x = ks i := by
      have := keyed9.inj hkey (key_of i)
      injection this
    subst hx
    obtain ⟨s, hs, hy, _⟩ := plainElem_string_inv Yba.underlying9 hv
    injection hs with hs
    subst hs
    have hsome := hF.has i hi
    rw [hle _ hlk] at hsome
    obtain ⟨v, hfv⟩ := Option.isSome_iff_exists.1 hsome.symm
    have e1 := hF.at_ i v (.lit (.string [])) hi hfv
    rw [hat, hy] at e1
    simp only [DataW.lit.injEq, Lit.string.injEq] at e1
    have : c = v := byteArray_data e1
    subst this
    exact hMore i c w' cnt' hi hfv hlk hrg hlt hgr hsz hen
end Go.Proofs.Ybulkamrg
