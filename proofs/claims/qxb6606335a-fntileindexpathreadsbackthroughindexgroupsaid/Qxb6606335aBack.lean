/-
  The plain law: a path reads back as its index; it has at most 33 bytes.
-/
import Derived.Test.Qxb6606335aRead
namespace Go.Proofs.Qxb6606335a

theorem isD_dgt {d : Nat} (h : d < 10) : isD (dgt d) = true := by simp [isD, dgt_toNat d h]; omega
theorem ig_grp {g : Nat} (h : g < 1000) : ig (grp g) = some g := by
  rw [ig, if_pos (grp_length g)]
  unfold grp
  simp only [igGo]
  rw [if_pos (isD_dgt (by omega)), if_pos (isD_dgt (by omega)), if_pos (isD_dgt (by omega)), dgt_toNat _ (by omega), dgt_toNat _ (by omega), dgt_toNat _ (by omega)]
  congr 1; omega
theorem dgt_ne {d : Nat} (h : d < 10) : ¬ dgt d = 47 := by
  intro e
  have := congrArg UInt8.toNat e
  rw [dgt_toNat d h] at this
  simp at this; omega
theorem rdL_grp {g : Nat} (h : g < 1000) (r cur : List UInt8) (v gr : Nat) : rdL (grp g ++ r) cur v gr = rdL r (cur ++ grp g) v gr := by
  unfold grp
  simp only [List.cons_append, List.nil_append, rdL]
  rw [if_neg (dgt_ne (by omega)), if_neg (dgt_ne (by omega)), if_neg (dgt_ne (by omega))]
  simp
theorem rdL_elem {g : Nat} (h : g < 1000) (r : List UInt8) (v gr : Nat) : rdL (120 :: (grp g ++ 47 :: r)) [] v gr = (step false g v gr).bind fun v' => rdL r [] v' (gr + 1) := by
  have e1 : rdL (120 :: (grp g ++ 47 :: r)) [] v gr = rdL (47 :: r) (120 :: grp g) v gr := by
    rw [rdL, if_neg (by decide), rdL_grp h]; rfl
  rw [e1]
  exact slash_g (strip_ok rfl rfl) (ig_grp h)

theorem pre_read (f : Nat) : ∀ m, m < 1000 ^ f → m ≤ big → ∃ k, (m ≠ 0 → 0 < k) ∧ ∀ r, rdL (pre f m ++ r) [] 0 0 = rdL r [] m k := by
  induction f with
  | zero => intro m h _; have : m = 0 := by simp at h; omega
            subst this; exact ⟨0, fun h => absurd rfl h, fun r => rfl⟩
  | succ f ih =>
    intro m h hm
    by_cases h0 : 0 < m
    · obtain ⟨k, hk, hr⟩ := ih (m / 1000) (by rw [Nat.div_lt_iff_lt_mul (by omega)]; rwa [Nat.pow_succ] at h) (by omega)
      refine ⟨k + 1, fun _ => by omega, fun r => ?_⟩
      rw [pre, if_pos h0, List.append_assoc, hr]
      rw [show (120 :: (grp (m % 1000) ++ [47])) ++ r = 120 :: (grp (m % 1000) ++ 47 :: r) from by simp]
      rw [rdL_elem (by omega), step_ok (fun hh => by have := hk; omega) (by omega)]
      show rdL r [] (m / 1000 * 1000 + m % 1000) (k + 1) = _
      rw [show m / 1000 * 1000 + m % 1000 = m from by omega]
    · obtain rfl : m = 0 := by omega
      exact ⟨0, fun h => absurd rfl h, fun r => by simp [pre]⟩

theorem tip_read (n : Nat) (h : n ≤ 9223372036854775807) : rdL (tip n) [] 0 0 = some n := by
  have p7 : (1000 : Nat) ^ 7 = 1000000000000000000000 := by decide
  obtain ⟨k, _, hr⟩ := pre_read 7 (n / 1000) (by omega) (by unfold big; omega)
  rw [tip_pre, hr]
  have := rdL_grp (g := n % 1000) (by omega) [] [] (n / 1000) k
  rw [List.append_nil] at this
  rw [this, List.nil_append, end_g (ig_grp (by omega)), step_ok (fun hh => by cases hh.2.1) (by unfold big; omega), Nat.mul_comm, Nat.div_add_mod]

theorem pre_short (f : Nat) : ∀ k m, m < 1000 ^ k → (pre f m).length ≤ 5 * k := by
  induction f with
  | zero => intro k m _; simp [pre]
  | succ f ih =>
    intro k m h
    by_cases h0 : 0 < m
    · cases k with
      | zero => simp at h; omega
      | succ k =>
        have := ih k (m / 1000) (by rw [Nat.div_lt_iff_lt_mul (by omega)]; rwa [Nat.pow_succ] at h)
        rw [pre, if_pos h0]
        simp only [List.length_append, List.length_cons, List.length_nil, grp_length]
        omega
    · rw [show m = 0 from by omega]; simp [pre]
theorem tip_short (n : Nat) (h : n ≤ 9223372036854775807) : (tip n).length ≤ 33 := by
  have p6 : (1000 : Nat) ^ 6 = 1000000000000000000 := by decide
  have := pre_short 7 6 (n / 1000) (by omega)
  rw [tip_pre, List.length_append, grp_length]; omega
end Go.Proofs.Qxb6606335a
