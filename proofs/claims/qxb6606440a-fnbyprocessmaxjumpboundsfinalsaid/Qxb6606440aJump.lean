/-
  The plain law of MaxJump and Final, where no process's Lamport values fall.
-/
import Derived.Test.Qxb6606440aTally
namespace Go.Proofs.Qxb6606440a

/-- of the first n events none has a value below its process's previous one -/
def Rises (E : Nat → EvD) (Z R : Nat → Int) (n : Nat) : Prop := ∀ j, j < n → (run E Z R j (E j).proc.toNat).fi ≤ Z j

theorem run_same (E : Nat → EvD) (Z R : Nat → Int) (i : Nat) : (run E Z R (i + 1) (E i).proc.toNat).fi = Z i := by
  rw [run, if_pos rfl]; rfl

theorem rises_final {E : Nat → EvD} {Z R : Nat → Int} {n : Nat} (h : Rises E Z R n) (i : Nat) (hi : i < n) : ∀ j, i < j → j ≤ n → Z i ≤ (run E Z R j (E i).proc.toNat).fi
  | 0, h1, _ => by omega
  | j + 1, h1, h2 => by
    by_cases e : i = j
    · subst e; rw [run_same]; exact Int.le_refl _
    · have ih := rises_final h i hi j (by omega) (by omega)
      rw [run]
      by_cases e2 : (E i).proc.toNat = (E j).proc.toNat
      · rw [if_pos e2]
        show Z i ≤ Z j
        have := h j (by omega)
        rw [← e2] at this
        omega
      · rw [if_neg e2]; exact ih

structure JumpOk (t : Tal) : Prop where
  none : t.ev = 0 → t.mj = 0 ∧ t.fi = 0
  pos : 0 ≤ t.mj ∧ 0 ≤ t.fi ∧ t.fi ≤ 18446744073709551615
  le : t.mj ≤ t.fi
  sum : t.fi ≤ t.mj * (t.ev : Int)

theorem jump_step {t : Tal} (h : JumpOk t) (k lam : Int) (hl : t.fi ≤ lam) (hm : lam ≤ 18446744073709551615) : JumpOk (t.step k lam) := by
  obtain ⟨_, ⟨p1, p2, p3⟩, hle, hs⟩ := h
  have e : sub64 lam t.fi = lam - t.fi := by unfold sub64; omega
  refine ⟨fun h => by simp [Tal.step] at h, ⟨?_, ?_, ?_⟩, ?_, ?_⟩
  · show 0 ≤ max t.mj (sub64 lam t.fi); omega
  · show 0 ≤ lam; omega
  · show lam ≤ _; omega
  · show max t.mj (sub64 lam t.fi) ≤ lam; rw [e]; omega
  · show lam ≤ max t.mj (sub64 lam t.fi) * ((t.ev + 1 : Nat) : Int)
    rw [e]
    have h1 : t.mj * (t.ev : Int) ≤ max t.mj (lam - t.fi) * (t.ev : Int) := Int.mul_le_mul_of_nonneg_right (by omega) (by omega)
    have h2 : lam - t.fi ≤ max t.mj (lam - t.fi) := by omega
    have h3 : max t.mj (lam - t.fi) * ((t.ev + 1 : Nat) : Int) = max t.mj (lam - t.fi) * (t.ev : Int) + max t.mj (lam - t.fi) := by
      rw [Int.natCast_add, Int.mul_add]; simp
    omega

theorem jump_run {E : Nat → EvD} {Z R : Nat → Int} {n : Nat} (h : Rises E Z R n) (hZ : ∀ i, i < n → 0 ≤ Z i ∧ Z i ≤ 18446744073709551615) (p : Nat) : ∀ i, i ≤ n → JumpOk (run E Z R i p)
  | 0, _ => ⟨fun _ => ⟨rfl, rfl⟩, ⟨Int.le_refl _, Int.le_refl _, show (0 : Int) ≤ 18446744073709551615 by decide⟩, Int.le_refl _, show (0 : Int) ≤ 0 * ((0 : Nat) : Int) by decide⟩
  | i + 1, hi => by
    have ih := jump_run h hZ p i (by omega)
    rw [run]
    by_cases e : p = (E i).proc.toNat
    · rw [if_pos e]
      refine jump_step ih _ _ ?_ (hZ i (by omega)).2
      have := h i (by omega)
      rw [← e] at this
      exact this
    · rw [if_neg e]; exact ih

theorem jump_mean {t : Tal} (h : JumpOk t) (h0 : 0 < t.ev) : t.fi / (t.ev : Int) ≤ t.mj := by
  have h1 : t.fi / (t.ev : Int) ≤ (t.mj * (t.ev : Int)) / (t.ev : Int) := Int.ediv_le_ediv (by omega) h.sum
  rwa [Int.mul_ediv_cancel _ (by omega)] at h1
end Go.Proofs.Qxb6606440a
