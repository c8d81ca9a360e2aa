/-
  The plain law: the padded decimal text, cut into groups, is the tile index path.
-/
import Derived.Test.Qxb6606335aChunks
namespace Go.Proofs.Qxb6606335a

def wrapAll : List UInt8 → List UInt8
  | a :: b :: c :: rest => 120 :: a :: b :: c :: 47 :: wrapAll rest
  | _ => []

theorem wrapAll_snoc : ∀ (t : Nat) (X : List UInt8) (a b c : UInt8), X.length = 3 * t → wrapAll (X ++ [a, b, c]) = wrapAll X ++ [120, a, b, c, 47] ∧ chunks (X ++ [a, b, c]) = wrapAll X ++ [a, b, c]
  | 0, X, a, b, c, h => by
    obtain rfl : X = [] := List.eq_nil_of_length_eq_zero (by omega)
    exact ⟨rfl, rfl⟩
  | t + 1, x :: y :: z :: X, a, b, c, h => by
    obtain ⟨h1, h2⟩ := wrapAll_snoc t X a b c (by simp at h; omega)
    refine ⟨?_, ?_⟩
    · show 120 :: x :: y :: z :: 47 :: wrapAll (X ++ [a, b, c]) = _
      rw [h1]; rfl
    · show chunks (x :: y :: z :: (X ++ [a, b, c])) = _
      rw [chunks_more _ _ _ _ (by simp), h2]; rfl
  | t + 1, [], _, _, _, h => by simp at h
  | t + 1, [_], _, _, _, h => by simp at h; omega
  | t + 1, [_, _], _, _, _, h => by simp at h; omega

theorem rdig_fuel (k : Nat) : ∀ (f m : Nat), m < 10 ^ f → rdig (f + k) m = rdig f m := by
  intro f
  induction f with
  | zero => intro m h; have : m = 0 := by simp at h; omega
            subst this; rw [rdig_zero, rdig_zero]
  | succ f ih =>
    intro m h
    by_cases h0 : 0 < m
    · rw [show f + 1 + k = (f + k) + 1 from by omega, rdig_pos h0, rdig_pos h0, ih (m / 10)]
      rw [Nat.div_lt_iff_lt_mul (by omega)]; rwa [Nat.pow_succ] at h
    · rw [show m = 0 from by omega, rdig_zero, rdig_zero]

theorem dec_step (n : Nat) (h1 : 1000 ≤ n) (h2 : n ≤ 9223372036854775807) : dec n = dec (n / 1000) ++ grp (n % 1000) := by
  have p16 : (10 : Nat) ^ 16 = 10000000000000000 := by decide
  have e16 : rdig 19 (n / 1000) = rdig 16 (n / 1000) := rdig_fuel 3 16 (n / 1000) (by omega)
  unfold dec
  rw [if_neg (by omega), if_neg (by omega), e16, rdig_pos (f := 18) (by omega), rdig_pos (f := 17) (by omega), rdig_pos (f := 16) (by omega)]
  have a1 : n / 10 / 10 / 10 = n / 1000 := by omega
  have a2 : n / 10 % 10 = n % 1000 / 10 % 10 := by omega
  have a3 : n / 10 / 10 % 10 = n % 1000 / 100 := by omega
  have a4 : n % 10 = n % 1000 % 10 := by omega
  rw [a1, a3, a2, a4]
  simp [grp]

def pad' (m : Nat) : List UInt8 := if m = 0 then [] else padded m

theorem padded_small : ∀ n : Fin 1000, padded n.val = grp n.val := by decide +kernel

theorem padded_step (n : Nat) (h : n ≤ 9223372036854775807) : padded n = pad' (n / 1000) ++ grp (n % 1000) := by
  by_cases h1 : n < 1000
  · have := padded_small ⟨n, h1⟩
    simp only at this
    rw [this, pad', if_pos (by omega), Nat.mod_eq_of_lt h1]; rfl
  · rw [pad', if_neg (by omega), padded, padded, dec_step n (by omega) h]
    have : padOf (dec (n / 1000) ++ grp (n % 1000)).length = padOf (dec (n / 1000)).length := by
      unfold padOf; rw [List.length_append, grp_length]; omega
    rw [this, List.append_assoc]

theorem padded_len (n : Nat) : ∃ t, (padded n).length = 3 * t := by
  refine ⟨(padOf (dec n).length + (dec n).length) / 3, ?_⟩
  simp only [padded, List.length_append, List.length_replicate]
  unfold padOf; omega
theorem pad'_len (n : Nat) : ∃ t, (pad' n).length = 3 * t := by
  by_cases h : n = 0
  · exact ⟨0, by simp [pad', h]⟩
  · rw [pad', if_neg h]; exact padded_len n

theorem pre_wrap (f : Nat) : ∀ m, m < 1000 ^ f → m ≤ 9223372036854775807 → pre f m = wrapAll (pad' m) := by
  induction f with
  | zero => intro m h _; have : m = 0 := by simp at h; omega
            subst this; rfl
  | succ f ih =>
    intro m h hm
    by_cases h0 : 0 < m
    · obtain ⟨t, ht⟩ := pad'_len (m / 1000)
      rw [pre, if_pos h0, ih (m / 1000) (by rw [Nat.div_lt_iff_lt_mul (by omega)]; rwa [Nat.pow_succ] at h) (by omega)]
      rw [show pad' m = padded m from by rw [pad', if_neg (by omega)], padded_step m hm]
      exact ((wrapAll_snoc t (pad' (m / 1000)) _ _ _ ht).1).symm
    · rw [show m = 0 from by omega, show pre (f + 1) 0 = [] from by simp [pre]]; rfl

theorem chunks_tip (n : Nat) (h : n ≤ 9223372036854775807) : chunks (padded n) = tip n := by
  obtain ⟨t, ht⟩ := pad'_len (n / 1000)
  have p7 : (1000 : Nat) ^ 7 = 1000000000000000000000 := by decide
  rw [tip_pre, padded_step n h, pre_wrap 7 (n / 1000) (by omega) (by omega)]
  exact (wrapAll_snoc t (pad' (n / 1000)) _ _ _ ht).2
end Go.Proofs.Qxb6606335a
