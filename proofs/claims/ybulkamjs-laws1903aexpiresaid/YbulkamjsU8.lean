/- A function of slices.Sort at uint16: the walk that the kit has at int, turned to this program by a small program (tools/reaim.py). -/
import Derived.Test.YbulkamjsU0
import Derived.Sort.WalkD2
namespace Go.Proofs.Ybulkamjs
open Go.RowKit Go.Sort Go.Proofs
set_option linter.unusedVariables false
set_option linter.unusedSimpArgs false
theorem holds_asideU {w : World} {blk off sb so n t : Nat} {d : Array Int} (h : Holds (Value.int .u16) w blk off d) (hne : sb ≠ blk) : Holds (Value.int .u16) (putRow (Value.int .i64) (Sort.ahead w n) sb so (one t)) blk off d := fun j hj =>
  ⟨by rw [cell?_putRow_other _ _ _ _ _ _ (Or.inl (Ne.symm hne))]; exact (h j hj).1, by rw [frozen?_putRow]; exact (h j hj).2⟩
set_option maxHeartbeats 1000000 in
theorem order2_intU (d : Array Int) (len : Nat) (hlen : d.size = len) (blk off cap a b sb so s : Nat) (w : World) (hH : Holds (Value.int .u16) w blk off d) (ha : a < d.size) (hb : b < d.size)
    (hS : Holds (Value.int .i64) w sb so (one s)) (hs : s < 2 ^ 62) :
    Calls Yba.prog 72 #[.slice (some ⟨blk, off, none⟩) len cap, .int .i64 a, .int .i64 b, .pointer (some ⟨sb, so, none⟩)] w fun e w' =>
      e = .returned (.tuple #[.int .i64 (order2 ltInt d a b s).1, .int .i64 (order2 ltInt d a b s).2.1]) ∧ ∃ n, w' = putRow (Value.int .i64) (Sort.ahead w n) sb so (one (order2 ltInt d a b s).2.2) := by
  subst hlen
  replace hs : s < 4611686018427387904 := by omega
  have ca := (hH a ha).1
  have cb := (hH b hb).1
  obtain ⟨cs, fs⟩ := one_cell hS
  have ea : d[a]! = d[a] := getElem!_pos d a ha
  have eb : d[b]! = d[b] := getElem!_pos d b hb
  go_enter Yba.func72, Yba.ntmps72
  go_wp2
  go_region_with (go_at_call 43; refine (cmp_Less_intU _ _ _).mono ?_; rintro e w' ⟨rfl, rfl⟩)
  all_goals (try go_wp2)
  all_goals first
    | (have hlt : ltInt d[b] d[a] = true := by assumption
       have e2 : order2 ltInt d a b s = (b, a, s + 1) := by simp [order2, ea, eb, hlt]
       go_ret2
       rw [e2]
       refine ⟨rfl, 1, ?_⟩
       rw [putRow_ahead, ← one_set hS (s + 1)]
       simp [drew_eq_ahead])
    | (have hlt : ltInt d[b] d[a] = false := by assumption
       have e2 : order2 ltInt d a b s = (a, b, s) := by simp [order2, ea, eb, hlt]
       go_ret2
       rw [e2]
       refine ⟨rfl, 1, ?_⟩
       rw [putRow_ahead, putRow_self _ _ _ _ _ hS]
       rfl)

set_option maxHeartbeats 1000000 in
set_option maxRecDepth 100000 in
theorem median_intU (d : Array Int) (len : Nat) (hlen : d.size = len) (blk off cap a b c sb so s : Nat) (w : World) (hH : Holds (Value.int .u16) w blk off d) (ha : a < d.size) (hb : b < d.size) (hc : c < d.size) (hne : sb ≠ blk)
    (hS : Holds (Value.int .i64) w sb so (one s)) (hs : s + 3 < 2 ^ 62) :
    Calls Yba.prog 58 #[.slice (some ⟨blk, off, none⟩) len cap, .int .i64 a, .int .i64 b, .int .i64 c, .pointer (some ⟨sb, so, none⟩)] w fun e w' =>
      e = .returned (.int .i64 (median ltInt d a b c s).1) ∧ ∃ n, w' = putRow (Value.int .i64) (Sort.ahead w n) sb so (one (median ltInt d a b c s).2) := by
  subst hlen
  have l1 := order2_lt d s ha hb
  have s1 := order2_swaps d a b s
  have l2 := order2_lt d (order2 ltInt d a b s).2.2 l1.2 hc
  have s2 := order2_swaps d (order2 ltInt d a b s).2.1 c (order2 ltInt d a b s).2.2
  go_enter Yba.func58, Yba.ntmps58
  go_wp2_with (go_at_call_of 72 (Value.int .i64 (b : Int)); refine (order2_intU d _ rfl blk off cap a b sb so s w hH ha hb hS (by omega)).mono ?_; rintro e w' ⟨rfl, n1, rfl⟩)
  go_wp2_with (go_at_call_of 72 (Value.int .i64 (c : Int)); refine (order2_intU d _ rfl blk off cap (order2 ltInt d a b s).2.1 c sb so (order2 ltInt d a b s).2.2 _ (holds_asideU hH hne) l1.2 hc (holds_one hS) (by omega)).mono ?_; rintro e w' ⟨rfl, n2, rfl⟩)
  go_wp2_with (go_at_call_of 72 (Value.int .i64 ((order2 ltInt d a b s).1 : Int)); refine (order2_intU d _ rfl blk off cap (order2 ltInt d a b s).1 (order2 ltInt d (order2 ltInt d a b s).2.1 c (order2 ltInt d a b s).2.2).1 sb so (order2 ltInt d (order2 ltInt d a b s).2.1 c (order2 ltInt d a b s).2.2).2.2 _
    (holds_asideU (holds_asideU hH hne) hne) l1.1 l2.1 (holds_one (holds_one hS)) (by omega)).mono ?_; rintro e w' ⟨rfl, n3, rfl⟩)
  go_ret
  refine ⟨rfl, n1 + (n2 + n3), ?_⟩
  rw [one_one, one_one]
  rfl

set_option maxHeartbeats 1000000 in
set_option maxRecDepth 100000 in
theorem medianAdjacent_intU (d : Array Int) (len : Nat) (hlen : d.size = len) (blk off cap a sb so s : Nat) (w : World) (hH : Holds (Value.int .u16) w blk off d) (ha0 : 1 ≤ a) (ha : a + 1 < d.size) (hsz : d.size < 2 ^ 62) (hne : sb ≠ blk)
    (hS : Holds (Value.int .i64) w sb so (one s)) (hs : s + 3 < 2 ^ 62) :
    Calls Yba.prog 57 #[.slice (some ⟨blk, off, none⟩) len cap, .int .i64 a, .pointer (some ⟨sb, so, none⟩)] w fun e w' =>
      e = .returned (.int .i64 (medianAdjacent ltInt d a s).1) ∧ ∃ n, w' = putRow (Value.int .i64) (Sort.ahead w n) sb so (one (medianAdjacent ltInt d a s).2) := by
  subst hlen
  replace hsz : d.size < 4611686018427387904 := by omega
  go_enter Yba.func57, Yba.ntmps57
  go_wp2_with (go_at_call 58; rw [show ((a : Int) - 1) = ((a - 1 : Nat) : Int) by omega, show ((a : Int) + 1) = ((a + 1 : Nat) : Int) by omega]; refine (median_intU d _ rfl blk off cap (a - 1) a (a + 1) sb so s w hH (by omega) (by omega) ha hne hS hs).mono ?_; rintro e w' ⟨rfl, n1, rfl⟩)
  go_ret
  exact ⟨rfl, n1, rfl⟩

end Go.Proofs.Ybulkamjs
