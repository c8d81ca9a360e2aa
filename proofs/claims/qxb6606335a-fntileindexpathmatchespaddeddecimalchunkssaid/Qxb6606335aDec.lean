/-
  The plain decimal text of a number, digit by digit from its end.
-/
import Derived.Test.Qxb6606335aPlain
namespace Go.Proofs.Qxb6606335a

/-- the digits of m from the last on; f: fuel -/
def rdig : Nat → Nat → List UInt8
  | 0, _ => []
  | f + 1, m => if 0 < m then dgt (m % 10) :: rdig f (m / 10) else []
theorem rdig_pos {f m : Nat} (h : 0 < m) : rdig (f + 1) m = dgt (m % 10) :: rdig f (m / 10) := by rw [rdig, if_pos h]
theorem rdig_zero (f : Nat) : rdig f 0 = [] := by cases f <;> simp [rdig]
theorem rdig_length (f : Nat) : ∀ m, (rdig f m).length ≤ f := by
  induction f with
  | zero => intro m; simp [rdig]
  | succ f ih =>
    intro m
    by_cases h : 0 < m
    · rw [rdig_pos h]; have := ih (m / 10); simp; omega
    · rw [show m = 0 from by omega, rdig_zero]; simp

def dec (n : Nat) : List UInt8 := if n = 0 then [48] else (rdig 19 n).reverse

theorem k10_le {m k : Nat} (hm : 0 < m) (h : m * 10 ^ k ≤ 9223372036854775807) : k ≤ 18 := by
  rcases Nat.lt_or_ge 18 k with hk | hk
  · exfalso
    have h1 : 10 ^ 19 ≤ 10 ^ k := Nat.pow_le_pow_right (by omega) hk
    have h2 : 1 * 10 ^ k ≤ m * 10 ^ k := Nat.mul_le_mul_right _ hm
    have h3 : 10 ^ 19 = 10000000000000000000 := by decide
    omega
  · omega
theorem m10_step {m k : Nat} (h : m * 10 ^ k ≤ 9223372036854775807) : m / 10 * 10 ^ (k + 1) ≤ 9223372036854775807 := by
  have h1 : m / 10 * 10 ^ (k + 1) = m / 10 * 10 * 10 ^ k := by rw [Nat.pow_succ, Nat.mul_assoc, Nat.mul_comm 10 (10 ^ k)]
  have h2 : m / 10 * 10 * 10 ^ k ≤ m * 10 ^ k := Nat.mul_le_mul_right _ (Nat.div_mul_le_self m 10)
  omega
theorem m10_le {m k : Nat} (h : m * 10 ^ k ≤ 9223372036854775807) : m ≤ 9223372036854775807 := by
  have h1 : m * 1 ≤ m * 10 ^ k := Nat.mul_le_mul_left _ (Nat.pow_pos (by omega))
  omega
end Go.Proofs.Qxb6606335a
