/-
  The plain law of the per-event model: what it gathers event by event is byProcess's tally in the end.
-/
import Derived.Test.Qxb6606440aTally
namespace Go.Proofs.Qxb6606440a

/-- is there a later event of event i's process among the first n? -/
def lateB (E : Nat → EvD) (n i : Nat) : Bool := (List.range n).any fun j => decide (i < j) && decide ((E j).proc = (E i).proc)
theorem lateB_true {E : Nat → EvD} {n i j : Nat} (h1 : i < j) (h2 : j < n) (h : (E j).proc = (E i).proc) : lateB E n i = true := by
  unfold lateB
  rw [List.any_eq_true]
  exact ⟨j, by simpa using h2, by simp [h1, h]⟩
theorem lateB_false {E : Nat → EvD} {n i : Nat} (h : ∀ j, i < j → j < n → (E j).proc ≠ (E i).proc) : lateB E n i = false := by
  unfold lateB
  rw [List.any_eq_false]
  intro j hj
  have hj' : j < n := by simpa using hj
  simp only [Bool.and_eq_true, decide_eq_true_eq, not_and]
  exact fun hij => h j hij hj'
theorem lateB_none {E : Nat → EvD} {n i : Nat} (h : lateB E n i = false) : ∀ j, i < j → j < n → (E j).proc ≠ (E i).proc := fun j h1 h2 e => by
  rw [lateB_true h1 h2 e] at h; cases h

/-- the model's Final behind i events -/
def wf (E : Nat → EvD) (Z : Nat → Int) (n : Nat) : Nat → Nat → Int
  | 0, _ => 0
  | i + 1, p => if p = (E i).proc.toNat ∧ lateB E n i = false then Z i else wf E Z n i p
/-- the model's tally behind i events -/
def Wt (E : Nat → EvD) (Z R : Nat → Int) (n i p : Nat) : Tal := ⟨(run E Z R i p).ev, (run E Z R i p).lo, (run E Z R i p).se, (run E Z R i p).re, (run E Z R i p).mj, wf E Z n i p⟩

theorem wf_run {E : Nat → EvD} {Z R : Nat → Int} {n : Nat} (hp : ∀ i, i < n → 0 ≤ (E i).proc) (p : Nat) : ∀ i, i ≤ n → (∀ j, i ≤ j → j < n → p ≠ (E j).proc.toNat) → wf E Z n i p = (run E Z R i p).fi
  | 0, _, _ => rfl
  | i + 1, hi, h => by
    unfold wf run
    by_cases e : p = (E i).proc.toNat
    · have hl : lateB E n i = false := lateB_false fun j h1 h2 h3 => h j h1 h2 (by rw [h3]; exact e)
      rw [if_pos ⟨e, hl⟩, if_pos e]; rfl
    · rw [if_neg (fun h => e h.1), if_neg e]
      refine wf_run hp p i (by omega) (fun j h1 h2 => ?_)
      by_cases ej : j = i
      · subst ej; exact e
      · exact h j (by omega) h2
theorem Wt_run {E : Nat → EvD} {Z R : Nat → Int} {n : Nat} (hp : ∀ i, i < n → 0 ≤ (E i).proc) (p : Nat) : Wt E Z R n n p = run E Z R n p := by
  unfold Wt
  rw [wf_run (R := R) hp p n (Nat.le_refl _) (fun j h1 h2 => by omega)]

/-- the process's previous value, sought backwards -/
theorem prev_skip {E : Nat → EvD} {Z R : Nat → Int} {q : Nat} : ∀ (k m : Nat), (∀ j, m ≤ j → j < m + k → q ≠ (E j).proc.toNat) → (run E Z R (m + k) q).fi = (run E Z R m q).fi
  | 0, m, _ => rfl
  | k + 1, m, h => by
    rw [show m + (k + 1) = (m + k) + 1 from by omega, run, if_neg (h (m + k) (by omega) (by omega))]
    exact prev_skip k m (fun j h1 h2 => h j h1 (by omega))
theorem prev_hit {E : Nat → EvD} {Z R : Nat → Int} {q i m : Nat} (hm : m < i) (h : ∀ j, m < j → j < i → q ≠ (E j).proc.toNat) (hq : q = (E m).proc.toNat) : (run E Z R i q).fi = Z m := by
  have := prev_skip (E := E) (Z := Z) (R := R) (q := q) (i - (m + 1)) (m + 1) (fun j h1 h2 => h j (by omega) (by omega))
  rw [show m + 1 + (i - (m + 1)) = i from by omega] at this
  rw [this, run, if_pos hq]; rfl
theorem prev_none {E : Nat → EvD} {Z R : Nat → Int} {q i : Nat} (h : ∀ j, j < i → q ≠ (E j).proc.toNat) : (run E Z R i q).fi = 0 := by
  have := prev_skip (E := E) (Z := Z) (R := R) (q := q) i 0 (fun j _ h2 => h j (by omega))
  rw [Nat.zero_add] at this
  rw [this]; rfl

theorem Wt_step {E : Nat → EvD} {Z R : Nat → Int} {n i q : Nat} {t : Tal} {k : Int} (hq : (E i).proc = (q : Int)) (ht : t = Wt E Z R n i q) (hk : kindOf (E i).kind (E i).sl (R i) = k) :
    ∀ p, Wt E Z R n (i + 1) p = if p = q then ⟨t.ev + 1, if k = 1 then t.lo + 1 else t.lo, if k = 2 then t.se + 1 else t.se, if k = 3 then t.re + 1 else t.re, max t.mj (sub64 (Z i) (run E Z R i q).fi), if lateB E n i = false then Z i else t.fi⟩ else Wt E Z R n i p := by
  intro p
  have e1 : (E i).proc.toNat = q := by omega
  subst ht
  unfold Wt
  rw [run, wf, e1, hk]
  by_cases e : p = q
  · subst e
    rw [if_pos rfl, if_pos rfl]
    by_cases hl : lateB E n i = false
    · rw [if_pos ⟨rfl, hl⟩, if_pos hl]; rfl
    · rw [if_neg (fun h => hl h.2), if_neg hl]; rfl
  · rw [if_neg e, if_neg (fun h => e h.1), if_neg e]
end Go.Proofs.Qxb6606440a
