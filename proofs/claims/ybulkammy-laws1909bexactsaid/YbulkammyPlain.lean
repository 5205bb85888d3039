/-
  The plain arithmetic of 'LawS1909BExact': the header as a function z of the octet's place. No Go in it.
-/
namespace Go.Proofs.Ybulkammy
set_option linter.unusedVariables false

/-- the one's complement representative of a sum -/
def oc (s : Int) : Int := if s = 0 then 0 else (s - 1) % 65535 + 1

def w16 (z : Nat → Int) (i : Nat) : Int := z i * 256 + z (i + 1)
def w32 (z : Nat → Int) (i : Nat) : Int := z i * 16777216 + z (i + 1) * 65536 + z (i + 2) * 256 + z (i + 3)

/-- ipv4HeaderSum after k words of options -/
def hs (z : Nat → Int) : Nat → Int
  | 0 => w32 z 0 + w32 z 4 + w16 z 8 * 65536 + w32 z 12 + w32 z 16
  | k + 1 => hs z k + w32 z (20 + 4 * k)

/-- the words before the m-th, the sixth left out -/
def bs (z : Nat → Int) : Nat → Int
  | 0 => 0
  | m + 1 => if m = 5 then bs z m else bs z m + w16 z (2 * m)

def Oct (z : Nat → Int) : Prop := ∀ i, 0 ≤ z i ∧ z i ≤ 255

theorem w16_bd {z : Nat → Int} (h : Oct z) (i : Nat) : 0 ≤ w16 z i ∧ w16 z i ≤ 65535 := by
  have a := h i; have b := h (i + 1); unfold w16; omega
theorem w32_bd {z : Nat → Int} (h : Oct z) (i : Nat) : 0 ≤ w32 z i ∧ w32 z i ≤ 4294967295 := by
  have a := h i; have b := h (i + 1); have c := h (i + 2); have d := h (i + 3); unfold w32; omega
theorem w32_split (z : Nat → Int) (i : Nat) : w32 z i = w16 z i * 65536 + w16 z (i + 2) := by unfold w32 w16; rw [show i + 2 + 1 = i + 3 from rfl]; omega

theorem hs_bd {z : Nat → Int} (h : Oct z) : ∀ k, 0 ≤ hs z k ∧ hs z k ≤ 25769803770 + 4294967295 * k
  | 0 => by
    have a := w32_bd h 0; have b := w32_bd h 4; have c := w16_bd h 8; have d := w32_bd h 12; have e := w32_bd h 16
    simp only [hs]; omega
  | k + 1 => by
    have a := w32_bd h (20 + 4 * k); have b := hs_bd h k
    simp only [hs]; omega

theorem bs_bd {z : Nat → Int} (h : Oct z) : ∀ m, 0 ≤ bs z m
  | 0 => by simp [bs]
  | m + 1 => by
    have a := w16_bd h (2 * m); have b := bs_bd h m
    simp only [bs]; split <;> omega

def Eqv (a b : Int) : Prop := a % 65535 = b % 65535 ∧ (a = 0 ↔ b = 0) ∧ 0 ≤ a ∧ 0 ≤ b

theorem hs_bs {z : Nat → Int} (h : Oct z) : ∀ k, Eqv (hs z k) (bs z (10 + 2 * k))
  | 0 => by
    have a0 := w16_bd h 0; have a1 := w16_bd h 2; have a2 := w16_bd h 4; have a3 := w16_bd h 6; have a4 := w16_bd h 8
    have a6 := w16_bd h 12; have a7 := w16_bd h 14; have a8 := w16_bd h 16; have a9 := w16_bd h 18
    have e : bs z (10 + 2 * 0) = w16 z 0 + w16 z 2 + w16 z 4 + w16 z 6 + w16 z 8 + w16 z 12 + w16 z 14 + w16 z 16 + w16 z 18 := by
      simp [bs]
    rw [e]
    simp only [hs, w32_split, Eqv, Nat.reduceAdd]
    clear e
    omega
  | k + 1 => by
    have i := hs_bs h k
    have a := w16_bd h (20 + 4 * k); have b := w16_bd h (22 + 4 * k)
    have e : bs z (10 + 2 * (k + 1)) = bs z (10 + 2 * k) + w16 z (20 + 4 * k) + w16 z (22 + 4 * k) := by
      rw [show 10 + 2 * (k + 1) = (10 + 2 * k) + 1 + 1 by omega]
      rw [bs, if_neg (by omega), bs, if_neg (by omega), show 2 * (10 + 2 * k) = 20 + 4 * k by omega, show 2 * (10 + 2 * k + 1) = 22 + 4 * k by omega]
    rw [e, hs, w32_split, show 20 + 4 * k + 2 = 22 + 4 * k by omega]
    unfold Eqv at *
    omega

theorem oc_eqv {a b : Int} (h : Eqv a b) : oc a = oc b := by
  unfold Eqv at h; unfold oc
  split <;> split <;> omega

theorem oc_bd (a : Int) (h : 0 ≤ a) : 0 ≤ oc a ∧ oc a ≤ 65535 := by unfold oc; split <;> omega

theorem oc_small (a : Int) (h : 0 ≤ a) (h1 : a ≤ 65535) : oc a = a := by unfold oc; split <;> omega

theorem oc_add (t w : Int) (ht : 0 ≤ t) (h0 : 0 ≤ w) (h1 : w ≤ 65535) : oc (t + w) = if 65535 < oc t + w then oc t + w - 65535 else oc t + w := by
  unfold oc
  split <;> split <;> split <;> omega

/-- one step of the folding loop -/
theorem fold_eqv (s t : Int) (h : Eqv t s) (hb : 65535 < t) : Eqv (t % 65536 + t / 65536) s ∧ t % 65536 + t / 65536 < t := by
  unfold Eqv at *; omega

/-- the header with the five octets that the rewriting writes -/
def put (z : Nat → Int) (p t c : Int) : Nat → Int := fun i =>
  if i = 9 then p else if i = 2 then t / 256 else if i = 3 then t % 256 else if i = 10 then c / 256 else if i = 11 then c % 256 else z i

theorem put_oct {z : Nat → Int} (h : Oct z) {p t c : Int} (hp : 0 ≤ p ∧ p ≤ 255) (ht : 0 ≤ t ∧ t ≤ 65535) (hc : 0 ≤ c ∧ c ≤ 65535) : Oct (put z p t c) := by
  intro i; have := h i; unfold put; repeat' split
  all_goals omega

theorem hs_put {z : Nat → Int} (p t c : Int) : ∀ k, hs (put z p t c) k = hs z k + (p - z 9) * 65536 + (t - (z 2 * 256 + z 3))
  | 0 => by
    have : t = t / 256 * 256 + t % 256 := by omega
    simp only [hs, w32, w16, put]
    simp
    omega
  | k + 1 => by
    have i := hs_put p t c k (z := z)
    have e : w32 (put z p t c) (20 + 4 * k) = w32 z (20 + 4 * k) := by
      have q : ∀ j, put z p t c (20 + 4 * k + j) = z (20 + 4 * k + j) := by
        intro j; unfold put
        rw [if_neg (by omega), if_neg (by omega), if_neg (by omega), if_neg (by omega), if_neg (by omega)]
      have q0 := q 0; have q1 := q 1; have q2 := q 2; have q3 := q 3
      simp only [Nat.add_zero] at q0
      unfold w32; rw [q0, q1, q2, q3]
    simp only [hs, e, i]; omega

end Go.Proofs.Ybulkammy
