import Derived.WalkKit
namespace Go.Proofs.Qxb6602714a
open Go.RowKit
set_option linter.unusedVariables false

/-- The number that the first t digits spell. -/
def V (Z : Nat → Int) : Nat → Int
  | 0 => 0
  | t + 1 => V Z t * 10 + (Z t - 48)

/-- The number that the last k of n digits spell. -/
def R (Z : Nat → Int) (n : Nat) : Nat → Int
  | 0 => 0
  | k + 1 => R Z n k + (Z (n - 1 - k) - 48) * 10 ^ k

theorem wrap_ex (x : Int) : ∃ q, wrap64 x = x + 18446744073709551616 * q := by
  unfold wrap64
  exact ⟨-((x + 9223372036854775808) / 18446744073709551616), by omega⟩

theorem wrap_eq {x y : Int} (q : Int) (h : x = y + 18446744073709551616 * q) : wrap64 x = wrap64 y := by
  subst h
  unfold wrap64
  omega

theorem V_zero (Z : Nat → Int) : wrap64 (V Z 0) = 0 := by
  unfold wrap64 V; decide
theorem R_zero (Z : Nat → Int) (n : Nat) : wrap64 (R Z n 0) = 0 := by
  unfold wrap64 R; decide
theorem P_zero : wrap64 (10 ^ 0) = 1 := by
  unfold wrap64; decide

theorem V_step (Z : Nat → Int) (t : Nat) : wrap64 (wrap64 (wrap64 (V Z t) * 10) + (Z t - 48)) = wrap64 (V Z (t + 1)) := by
  obtain ⟨q1, h1⟩ := wrap_ex (V Z t)
  obtain ⟨q2, h2⟩ := wrap_ex (wrap64 (V Z t) * 10)
  refine wrap_eq (q2 + 10 * q1) ?_
  show _ = V Z t * 10 + (Z t - 48) + _
  rw [h2, h1]
  omega

theorem P_step (k : Nat) : wrap64 (wrap64 (10 ^ k) * 10) = wrap64 (10 ^ (k + 1)) := by
  obtain ⟨q1, h1⟩ := wrap_ex (10 ^ k)
  refine wrap_eq (10 * q1) ?_
  rw [h1, Int.pow_succ]
  omega

theorem R_step (Z : Nat → Int) (n k : Nat) : wrap64 (wrap64 (R Z n k) + wrap64 ((Z (n - 1 - k) - 48) * wrap64 (10 ^ k))) = wrap64 (R Z n (k + 1)) := by
  obtain ⟨q1, h1⟩ := wrap_ex (R Z n k)
  obtain ⟨q2, h2⟩ := wrap_ex (10 ^ k)
  obtain ⟨q3, h3⟩ := wrap_ex ((Z (n - 1 - k) - 48) * wrap64 (10 ^ k))
  have e : (Z (n - 1 - k) - 48) * (10 ^ k + 18446744073709551616 * q2) = (Z (n - 1 - k) - 48) * 10 ^ k + 18446744073709551616 * ((Z (n - 1 - k) - 48) * q2) := by
    rw [Int.mul_add, Int.mul_left_comm]
  refine wrap_eq (q1 + q3 + (Z (n - 1 - k) - 48) * q2) ?_
  show _ = R Z n k + (Z (n - 1 - k) - 48) * 10 ^ k + _
  rw [h3, h1, h2, e]
  generalize (Z (n - 1 - k) - 48) * 10 ^ k = a
  generalize (Z (n - 1 - k) - 48) * q2 = b
  omega

theorem VR (Z : Nat → Int) (n k : Nat) (hk : k ≤ n) : V Z n = V Z (n - k) * 10 ^ k + R Z n k := by
  induction k with
  | zero => simp [R]
  | succ k ih =>
    rw [ih (by omega)]
    obtain ⟨m, hm⟩ : ∃ m, n - k = m + 1 := ⟨n - k - 1, by omega⟩
    have e1 : n - (k + 1) = m := by omega
    have e2 : n - 1 - k = m := by omega
    rw [hm, e1]
    show (V Z m * 10 + (Z m - 48)) * 10 ^ k + R Z n k = V Z m * 10 ^ (k + 1) + (R Z n k + (Z (n - 1 - k) - 48) * 10 ^ k)
    rw [e2, Int.add_mul, Int.pow_succ, Int.mul_assoc, Int.mul_comm 10]
    omega

theorem V_eq_R (Z : Nat → Int) (n : Nat) : V Z n = R Z n n := by
  have h := VR Z n n (Nat.le_refl _)
  rw [Nat.sub_self] at h
  simpa [V] using h

/-- What the law's loop holds after t digits from the right. -/
def Rw (Z : Nat → Int) (n t : Nat) : Int := wrap64 (R Z n t)
def Pw (t : Nat) : Int := wrap64 (10 ^ t)
theorem Rw_zero (Z : Nat → Int) (n : Nat) : Rw Z n 0 = 0 := R_zero Z n
theorem Pw_zero : Pw 0 = 1 := P_zero
theorem Rw_step (Z : Nat → Int) (n t m : Nat) (hm : n - 1 - t = m) : wrap64 (Rw Z n t + wrap64 ((Z m - 48) * Pw t)) = Rw Z n (t + 1) := by
  subst hm; exact R_step Z n t
theorem Pw_step (t : Nat) : wrap64 (Pw t * 10) = Pw (t + 1) := P_step t
theorem V_Rw (Z : Nat → Int) (n : Nat) : wrap64 (V Z n) = Rw Z n n := by rw [V_eq_R]; rfl

end Go.Proofs.Qxb6602714a
