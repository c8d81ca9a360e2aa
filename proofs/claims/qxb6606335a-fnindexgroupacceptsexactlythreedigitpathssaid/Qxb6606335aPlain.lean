/-
  The plain side of tlogtiles' index paths: no Go in sight. 'tip n': the text that tileIndexPath(n) builds, group by group from its end.
-/
namespace Go.Proofs.Qxb6606335a

def dgt (d : Nat) : UInt8 := UInt8.ofNat (48 + d)
def grp (g : Nat) : List UInt8 := [dgt (g / 100), dgt (g / 10 % 10), dgt (g % 10)]

/-- the loop: m: what is left of the index; S: the text so far -/
def tipGo : Nat → Nat → List UInt8 → List UInt8
  | 0, _, S => S
  | f + 1, m, S => if 0 < m then tipGo f (m / 1000) (120 :: (grp (m % 1000) ++ 47 :: S)) else S
def tip (n : Nat) : List UInt8 := tipGo 7 (n / 1000) (grp (n % 1000))

/-- the text ahead of the last group -/
def pre : Nat → Nat → List UInt8
  | 0, _ => []
  | f + 1, m => if 0 < m then pre f (m / 1000) ++ (120 :: (grp (m % 1000) ++ [47])) else []

theorem tipGo_pre (f : Nat) : ∀ (m : Nat) (S : List UInt8), tipGo f m S = pre f m ++ S := by
  induction f with
  | zero => intro m S; simp [tipGo, pre]
  | succ f ih =>
    intro m S
    unfold tipGo pre
    by_cases h : 0 < m
    · rw [if_pos h, if_pos h, ih]; simp
    · rw [if_neg h, if_neg h]; simp

theorem tip_pre (n : Nat) : tip n = pre 7 (n / 1000) ++ grp (n % 1000) := tipGo_pre _ _ _

theorem dgt_toNat (d : Nat) (h : d < 10) : (dgt d).toNat = 48 + d := by
  unfold dgt; rw [UInt8.toNat_ofNat']; omega

theorem grp_length (g : Nat) : (grp g).length = 3 := rfl

end Go.Proofs.Qxb6606335a
