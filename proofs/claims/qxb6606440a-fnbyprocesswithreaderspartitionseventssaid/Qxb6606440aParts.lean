/-
  The plain law of the partition: every event is counted once, as local, send or receive.
-/
import Derived.Test.Qxb6606440aTally
namespace Go.Proofs.Qxb6606440a

theorem kind_three {k : Int} {sl : Nat} {r : Int} (h0 : 0 ≤ k) (h3 : k ≤ 3) : kindOf k sl r = 1 ∨ kindOf k sl r = 2 ∨ kindOf k sl r = 3 := by
  unfold kindOf
  by_cases e : k = 0
  · rw [if_pos e]
    by_cases e1 : 0 < sl
    · rw [if_pos e1]; exact .inr (.inr rfl)
    · rw [if_neg e1]
      by_cases e2 : 0 < r
      · rw [if_pos e2]; exact .inr (.inl rfl)
      · rw [if_neg e2]; exact .inl rfl
  · rw [if_neg e]; omega
theorem parts_run {E : Nat → EvD} {Z R : Nat → Int} {n : Nat} (hk : ∀ i, i < n → 0 ≤ (E i).kind ∧ (E i).kind ≤ 3) (p : Nat) : ∀ i, i ≤ n → (run E Z R i p).lo + (run E Z R i p).se + (run E Z R i p).re = (run E Z R i p).ev
  | 0, _ => rfl
  | i + 1, hi => by
    have ih := parts_run (Z := Z) (R := R) hk p i (by omega)
    rw [run]
    by_cases e : p = (E i).proc.toNat
    · rw [if_pos e]
      simp only [Tal.step]
      rcases kind_three (sl := (E i).sl) (r := R i) (hk i (by omega)).1 (hk i (by omega)).2 with h | h | h <;> rw [h] <;> simp <;> omega
    · rw [if_neg e]; exact ih

def sumEv (F : Nat → Tal) : Nat → Nat
  | 0 => 0
  | p + 1 => sumEv F p + (F p).ev
theorem sum_step {E : Nat → EvD} {Z R : Nat → Int} (i : Nat) : ∀ p, sumEv (run E Z R (i + 1)) p = sumEv (run E Z R i) p + (if (E i).proc.toNat < p then 1 else 0)
  | 0 => by simp [sumEv]
  | p + 1 => by
    rw [sumEv, sumEv, sum_step i p, run]
    by_cases e : p = (E i).proc.toNat
    · rw [if_pos e, if_neg (by omega), if_pos (by omega)]
      simp only [Tal.step]; omega
    · rw [if_neg e]
      by_cases e2 : (E i).proc.toNat < p
      · rw [if_pos e2, if_pos (by omega)]; omega
      · rw [if_neg e2, if_neg (by omega)]; omega
theorem sum_run {E : Nat → EvD} {Z R : Nat → Int} {pl n : Nat} (hp : ∀ i, i < n → 0 ≤ (E i).proc ∧ (E i).proc < pl) : ∀ i, i ≤ n → sumEv (run E Z R i) pl = i
  | 0, _ => by
    have : ∀ p, sumEv (run E Z R 0) p = 0 := fun p => by
      induction p with
      | zero => rfl
      | succ p ih => rw [sumEv, ih]; rfl
    exact this pl
  | i + 1, hi => by
    have := hp i (by omega)
    rw [sum_step, sum_run hp i (by omega), if_pos (by omega)]
theorem sum_le {F : Nat → Tal} {b : Nat} (h : ∀ p, (F p).ev ≤ b) : ∀ p, sumEv F p ≤ p * b
  | 0 => by simp [sumEv]
  | p + 1 => by
    have := sum_le h p
    have := h p
    rw [sumEv, Nat.add_mul]; omega
end Go.Proofs.Qxb6606440a
