/-
  The plain law of shortlex: a < b exactly when tip a comes ahead of tip b.
-/
import Derived.Test.Qxb6606335aPlain
import GoSem.Op.String
namespace Go.Proofs.Qxb6606335a
open Go.Op (bytesLess)

theorem less_irrefl : ∀ X : List UInt8, bytesLess X X = false
  | [] => rfl
  | a :: X => by simp [bytesLess, less_irrefl X]
theorem less_asymm : ∀ X Y : List UInt8, bytesLess X Y = true → bytesLess Y X = false
  | X, [], h => by cases X <;> simp [bytesLess] at h
  | [], _ :: _, _ => rfl
  | a :: X, b :: Y, h => by
    simp only [bytesLess, Bool.or_eq_true, decide_eq_true_eq, Bool.and_eq_true, beq_iff_eq] at h
    simp only [bytesLess, Bool.or_eq_false_iff, decide_eq_false_iff_not, Bool.and_eq_false_iff, beq_eq_false_iff_ne]
    rcases h with h | ⟨rfl, h⟩
    · have h' := UInt8.lt_iff_toNat_lt.1 h
      exact ⟨fun k => by have := UInt8.lt_iff_toNat_lt.1 k; omega, .inl (fun e => by subst e; omega)⟩
    · exact ⟨fun k => by have := UInt8.lt_iff_toNat_lt.1 k; omega, .inr (less_asymm X Y h)⟩
theorem less_append : ∀ X A B : List UInt8, bytesLess (X ++ A) (X ++ B) = bytesLess A B
  | [], _, _ => rfl
  | a :: X, A, B => by simp [bytesLess, less_append X A B]
theorem dgt_lt {c d : Nat} (h : c < d) (hd : d < 10) : dgt c < dgt d := by
  rw [UInt8.lt_iff_toNat_lt, dgt_toNat _ hd, dgt_toNat _ (by omega)]; omega
theorem less_head {a b : UInt8} (X Y : List UInt8) (h : a < b) : bytesLess (a :: X) (b :: Y) = true := by simp [bytesLess, h]
theorem less_tail (a : UInt8) (X Y : List UInt8) : bytesLess (a :: X) (a :: Y) = bytesLess X Y := by simp [bytesLess]
theorem grp_less {g h : Nat} (S T : List UInt8) (hl : g < h) (hh : h < 1000) : bytesLess (grp g ++ S) (grp h ++ T) = true := by
  unfold grp
  simp only [List.cons_append, List.nil_append]
  by_cases h1 : g / 100 < h / 100
  · exact less_head _ _ (dgt_lt h1 (by omega))
  · rw [show g / 100 = h / 100 from by omega, less_tail]
    by_cases h2 : g / 10 % 10 < h / 10 % 10
    · exact less_head _ _ (dgt_lt h2 (by omega))
    · rw [show g / 10 % 10 = h / 10 % 10 from by omega, less_tail]
      exact less_head _ _ (dgt_lt (by omega) (by omega))

theorem pre_pos {f m : Nat} (h : 0 < m) : pre (f + 1) m = pre f (m / 1000) ++ (120 :: (grp (m % 1000) ++ [47])) := by
  rw [pre, if_pos h]
theorem pre_zero (f : Nat) : pre f 0 = [] := by cases f <;> simp [pre]
theorem pre_mono (f : Nat) : ∀ a b : Nat, a ≤ b → (pre f a).length ≤ (pre f b).length := by
  induction f with
  | zero => intro a b _; simp [pre]
  | succ f ih =>
    intro a b h
    by_cases h0 : 0 < a
    · rw [pre_pos h0, pre_pos (by omega)]
      have := ih (a / 1000) (b / 1000) (Nat.div_le_div_right h)
      simp only [List.length_append, List.length_cons, grp_length]
      omega
    · obtain rfl : a = 0 := by omega
      rw [pre_zero]; simp
theorem pre_less (f : Nat) : ∀ (a b : Nat) (S T : List UInt8), a < b → b < 1000 ^ f → (pre f a).length = (pre f b).length → bytesLess (pre f a ++ S) (pre f b ++ T) = true := by
  induction f with
  | zero => intro a b S T h hb; simp at hb; omega
  | succ f ih =>
    intro a b S T h hb hl
    have hbf : b / 1000 < 1000 ^ f := by
      rw [Nat.div_lt_iff_lt_mul (by omega)]; rwa [Nat.pow_succ] at hb
    by_cases h0 : 0 < a
    · rw [pre_pos h0, pre_pos (by omega)] at *
      have hl' : (pre f (a / 1000)).length = (pre f (b / 1000)).length := by
        simp only [List.length_append, List.length_cons, grp_length] at hl; omega
      rw [List.append_assoc, List.append_assoc]
      by_cases h1 : a / 1000 < b / 1000
      · exact ih _ _ _ _ h1 hbf hl'
      · rw [show a / 1000 = b / 1000 from by omega, less_append]
        simp only [List.cons_append, List.append_assoc]
        rw [less_tail]
        exact grp_less _ _ (by omega) (by omega)
    · obtain rfl : a = 0 := by omega
      rw [pre_zero, pre_pos (by omega)] at hl
      simp at hl
theorem tip_length (n : Nat) : (tip n).length = (pre 7 (n / 1000)).length + 3 := by rw [tip_pre]; simp [grp_length]
theorem tip_lt {a b : Nat} (h : a < b) (hb : b ≤ 9223372036854775807) :
    (tip a).length < (tip b).length ∨ ((tip a).length = (tip b).length ∧ bytesLess (tip a) (tip b) = true) := by
  have hm := pre_mono 7 (a / 1000) (b / 1000) (Nat.div_le_div_right (by omega))
  rw [tip_length, tip_length]
  rcases Nat.lt_or_ge (pre 7 (a / 1000)).length (pre 7 (b / 1000)).length with hl | hl
  · left; omega
  · right
    refine ⟨by omega, ?_⟩
    rw [tip_pre, tip_pre]
    by_cases h1 : a / 1000 < b / 1000
    · exact pre_less _ _ _ _ _ h1 (by have : (1000 : Nat) ^ 7 = 1000000000000000000000 := by decide
                                      omega) (by omega)
    · rw [show a / 1000 = b / 1000 from by omega, less_append]
      have := grp_less [] [] (show a % 1000 < b % 1000 by omega) (by omega)
      simpa using this
theorem tip_ne {a b : Nat} (h : a < b) (hb : b ≤ 9223372036854775807) : tip a ≠ tip b := by
  intro e
  rcases tip_lt h hb with h1 | ⟨_, h1⟩
  · rw [e] at h1; omega
  · rw [e, less_irrefl] at h1; cases h1

end Go.Proofs.Qxb6606335a
