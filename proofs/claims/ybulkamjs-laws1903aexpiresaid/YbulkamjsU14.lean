/- A function of slices.Sort at uint16: the walk that the kit has at int, turned to this program by a small program (tools/reaim.py). -/
import Derived.Test.YbulkamjsU13
import Derived.Test.YbulkamjsULen
import Derived.Sort.WalkA14
namespace Go.Proofs.Ybulkamjs
open Go.RowKit Go.Sort Go.Proofs
set_option linter.unusedVariables false
set_option linter.unusedSimpArgs false
def pdqWalk_intU : Prop := ∀ (blk off cap a b limit : Nat) (d : Array Int) (w : World), Holds (Value.int .u16) w blk off d → blk < w.heap.size → a ≤ b → b ≤ d.size → d.size < 4611686018427387904 → limit < 4611686018427387904 → Below ltInt a b d →
  Calls Yba.prog 25 #[.slice (some ⟨blk, off, none⟩) d.size cap, .int .i64 a, .int .i64 b, .int .i64 limit] w fun e w' =>
    e = .returned (.tuple #[]) ∧ ∃ n os, w' = grow (putRow (Value.int .u16) (Sort.ahead w n) blk off (Sort.pdq ltInt d a b limit true true)) os

set_option maxRecDepth 100000 in
theorem Sort_intU (hpdq : pdqWalk_intU) (blk off cap : Nat) (d : Array Int) (w : World) (hH : Holds (Value.int .u16) w blk off d) (hblk : blk < w.heap.size) (hsz : d.size < 4611686018427387904) :
    Calls Yba.prog 8 #[.slice (some ⟨blk, off, none⟩) d.size cap] w fun e w' => e = .returned (.tuple #[]) ∧ ∃ n os, w' = grow (putRow (Value.int .u16) (Sort.ahead w n) blk off (Sort.sort ltInt d)) os := by
  have HH : Hid (Holds (Value.int .u16) w blk off d) := hH
  clear hH
  have hLen : ∀ w, Calls Yba.prog 26 #[.int .u64 (d.size : Int)] w fun e w' => e = .returned (.int .i64 (bitsLen d.size : Nat)) ∧ w' = w := fun w => by
    have h := bits_LenU (d.size : Int) w (by omega) (by omega)
    rwa [Int.toNat_natCast, bitLen_eq _ (by omega)] at h
  have hk : bitsLen d.size ≤ 62 := (bitsLen_le_iff d.size 62).2 (by omega)
  go_enter Yba.func8, Yba.ntmps8
  go_wp2_with (first
    | (go_at_call 26; refine (hLen _).mono ?_; rintro e w' ⟨rfl, rfl⟩)
    | (go_at_call 25; refine (hpdq blk off cap 0 d.size (bitsLen d.size) d _ (by exact HH.out) (by exact hblk) (Nat.zero_le _) (Nat.le_refl _) hsz (by omega) (Or.inl rfl)).mono ?_; rintro e w' ⟨rfl, n, os, rfl⟩))
  go_end0
  exact ⟨rfl, n, os, rfl⟩

theorem insertionSort_int_nilU (p : Option Addr) (cap : Nat) (w : World) :
    Calls Yba.prog 37 #[.slice p 0 cap, .int .i64 0, .int .i64 0] w fun e w' => e = .returned (.tuple #[]) ∧ w' = w := by
  go_enter Yba.func37, Yba.ntmps37
  go_wp2
  refine wp_loop_rounds 1 ?_
  rw [rounds_succ]
  go_wp2
  go_end0
  exact ⟨rfl, rfl⟩

set_option maxRecDepth 100000 in
theorem pdqsort_int_nilU (p : Option Addr) (cap : Nat) (w : World) :
    Calls Yba.prog 25 #[.slice p 0 cap, .int .i64 0, .int .i64 0, .int .i64 0] w fun e w' => e = .returned (.tuple #[]) ∧ w' = w := by
  go_enter Yba.func25, Yba.ntmps25
  go_wp2
  refine wp_loop_rounds 1 ?_
  rw [rounds_succ]
  go_wp2_with (first | (go_at_call 37; refine (insertionSort_int_nilU p cap _).mono ?_; rintro e w' ⟨rfl, rfl⟩))
  refine bodyPost_ret (results_none rfl _ _ _) rfl ?_     
  exact ⟨rfl, rfl⟩

set_option maxRecDepth 100000 in
theorem Sort_int_nilU (p : Option Addr) (cap : Nat) (w : World) :
    Calls Yba.prog 8 #[.slice p 0 cap] w fun e w' => e = .returned (.tuple #[]) ∧ w' = w := by
  have hLen : ∀ w, Calls Yba.prog 26 #[.int .u64 0] w fun e w' => e = .returned (.int .i64 0) ∧ w' = w := fun w => bits_LenU 0 w (by omega) (by omega)
  go_enter Yba.func8, Yba.ntmps8
  go_wp2_with (first
    | (go_at_call 26; refine (hLen _).mono ?_; rintro e w' ⟨rfl, rfl⟩)
    | (go_at_call 25; refine (pdqsort_int_nilU p cap _).mono ?_; rintro e w' ⟨rfl, rfl⟩))
  go_end0
  exact ⟨rfl, rfl⟩

end Go.Proofs.Ybulkamjs
