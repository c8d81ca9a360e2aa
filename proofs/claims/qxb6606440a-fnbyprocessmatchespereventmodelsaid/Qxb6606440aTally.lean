/-
  byProcess's plain side: a tally a process, one step an event. No Go in sight but for the shape of an event.
-/
import Derived.Test.Qxb6606440aOpen
namespace Go.Proofs.Qxb6606440a

structure Tal where
  ev : Nat
  lo : Nat
  se : Nat
  re : Nat
  mj : Int
  fi : Int

def Tal.zero : Tal := ⟨0, 0, 0, 0, 0, 0⟩
/-- the documented rule for an event's kind -/
def kindOf (k : Int) (sl : Nat) (r : Int) : Int := if k = 0 then (if 0 < sl then 3 else if 0 < r then 2 else 1) else k
def sub64 (a b : Int) : Int := (a - b) % 18446744073709551616
def Tal.step (t : Tal) (k lam : Int) : Tal :=
  ⟨t.ev + 1, if k = 1 then t.lo + 1 else t.lo, if k = 2 then t.se + 1 else t.se, if k = 3 then t.re + 1 else t.re, max t.mj (sub64 lam t.fi), lam⟩
/-- the tallies behind the first i events -/
def run (E : Nat → EvD) (Z R : Nat → Int) : Nat → Nat → Tal
  | 0, _ => Tal.zero
  | i + 1, p => if p = (E i).proc.toNat then (run E Z R i p).step (kindOf (E i).kind (E i).sl (R i)) (Z i) else run E Z R i p

theorem run_le (E : Nat → EvD) (Z R : Nat → Int) (p : Nat) : ∀ i, (run E Z R i p).ev ≤ i ∧ (run E Z R i p).lo ≤ i ∧ (run E Z R i p).se ≤ i ∧ (run E Z R i p).re ≤ i
  | 0 => ⟨Nat.le_refl _, Nat.le_refl _, Nat.le_refl _, Nat.le_refl _⟩
  | i + 1 => by
    have h := run_le E Z R p i
    unfold run
    by_cases e : p = (E i).proc.toNat
    · rw [if_pos e]
      simp only [Tal.step]
      refine ⟨by omega, ?_, ?_, ?_⟩ <;> split <;> omega
    · rw [if_neg e]; omega
theorem sub64_range (a b : Int) : 0 ≤ sub64 a b ∧ sub64 a b ≤ 18446744073709551615 := by unfold sub64; omega
theorem run_range (E : Nat → EvD) (Z R : Nat → Int) (p : Nat) (n : Nat) (hZ : ∀ i, i < n → 0 ≤ Z i ∧ Z i ≤ 18446744073709551615) : ∀ i, i ≤ n → (0 ≤ (run E Z R i p).mj ∧ (run E Z R i p).mj ≤ 18446744073709551615) ∧ 0 ≤ (run E Z R i p).fi ∧ (run E Z R i p).fi ≤ 18446744073709551615
  | 0, _ => by simp [run, Tal.zero]
  | i + 1, hi => by
    have h := run_range E Z R p n hZ i (by omega)
    have hz := hZ i (by omega)
    unfold run
    by_cases e : p = (E i).proc.toNat
    · rw [if_pos e]
      simp only [Tal.step]
      have := sub64_range (Z i) (run E Z R i p).fi
      omega
    · rw [if_neg e]; exact h
end Go.Proofs.Qxb6606440a
