/-
  The plain law: 'ig' accepts a text just where it is the path of a number below 1000, and gives that number.
-/
import Derived.Test.Qxb6606335aIg
namespace Go.Proofs.Qxb6606335a

theorem tip_small {k : Nat} (h : k < 1000) : tip k = grp k := by
  rw [tip, show k / 1000 = 0 from by omega, Nat.mod_eq_of_lt h]; rfl
theorem isD_of {c : UInt8} (h : isD c = true) : 48 ≤ c.toNat ∧ c.toNat ≤ 57 := by simpa [isD] using h
theorem dgt_back {c : UInt8} (h : isD c = true) : dgt (c.toNat - 48) = c := by
  have := isD_of h
  apply UInt8.toNat_inj.1
  rw [dgt_toNat _ (by omega)]; omega
theorem ig_back {L : List UInt8} {g : Nat} (h : ig L = some g) : g < 1000 ∧ tip g = L := by
  unfold ig at h
  by_cases h3 : L.length = 3
  · rw [if_pos h3] at h
    match L, h3 with
    | [a, b, c], _ =>
      simp only [igGo] at h
      by_cases ha : isD a = true
      · rw [if_pos ha] at h
        by_cases hb : isD b = true
        · rw [if_pos hb] at h
          by_cases hc : isD c = true
          · rw [if_pos hc] at h
            have ba := isD_of ha
            have bb := isD_of hb
            have bc := isD_of hc
            have hg := Option.some.inj h
            have hlt : g < 1000 := by omega
            refine ⟨hlt, ?_⟩
            rw [tip_small hlt]
            unfold grp
            rw [show g / 100 = a.toNat - 48 from by omega, show g / 10 % 10 = b.toNat - 48 from by omega, show g % 10 = c.toNat - 48 from by omega, dgt_back ha, dgt_back hb, dgt_back hc]
          · rw [if_neg hc] at h; cases h
        · rw [if_neg hb] at h; cases h
      · rw [if_neg ha] at h; cases h
  · rw [if_neg h3] at h; cases h
theorem isD_dgt' {d : Nat} (h : d < 10) : isD (dgt d) = true := by simp [isD, dgt_toNat d h]; omega
theorem ig_tip {g : Nat} (h : g < 1000) : ig (tip g) = some g := by
  rw [tip_small h, ig, if_pos (grp_length g)]
  unfold grp
  simp only [igGo]
  rw [if_pos (isD_dgt' (by omega)), if_pos (isD_dgt' (by omega)), if_pos (isD_dgt' (by omega)), dgt_toNat _ (by omega), dgt_toNat _ (by omega), dgt_toNat _ (by omega)]
  congr 1; omega
theorem tip_other {k g : Nat} {L : List UInt8} (hk : k < 1000) (h : ig L = some g) (hne : k ≠ g) : (tip k == L) = false := by
  rw [beq_eq_false_iff_ne]
  intro e
  rw [← e, ig_tip hk] at h
  exact hne (Option.some.inj h)
theorem tip_never {k : Nat} {L : List UInt8} (hk : k < 1000) (h : ig L = none) : (tip k == L) = false := by
  rw [beq_eq_false_iff_ne]
  intro e
  rw [← e, ig_tip hk] at h
  cases h
end Go.Proofs.Qxb6606335a
