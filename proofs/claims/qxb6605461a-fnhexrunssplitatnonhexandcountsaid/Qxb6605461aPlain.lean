/-
  The plain side of the hex runs: no Go in sight.
-/
namespace Go.Proofs.Qxb6605461a

def hx (c : UInt8) : Bool := decide (48 ≤ c.toNat ∧ c.toNat ≤ 57) || decide (97 ≤ c.toNat ∧ c.toNat ≤ 102)
def endRun (cur : List UInt8) : List (List UInt8) := if 32 ≤ cur.length then [cur] else []
def runsGo : List UInt8 → List UInt8 → List (List UInt8)
  | [], cur => endRun cur
  | c :: r, cur => if hx c = true then runsGo r (cur ++ [c]) else endRun cur ++ runsGo r []
def runs (L : List UInt8) : List (List UInt8) := runsGo L []

theorem runs_split (t : List UInt8) (c : UInt8) (hc : hx c = false) : ∀ (s cur : List UInt8), runsGo (s ++ c :: t) cur = runsGo s cur ++ runsGo t []
  | [], cur => by simp [runsGo, hc]
  | a :: s, cur => by
    simp only [List.cons_append, runsGo]
    by_cases h : hx a = true
    · rw [if_pos h, if_pos h, runs_split t c hc s]
    · rw [if_neg h, if_neg h, runs_split t c hc s, List.append_assoc]

/-- every run is long and of hex digits alone -/
def Long (r : List UInt8) : Prop := 32 ≤ r.length ∧ ∀ c ∈ r, hx c = true
theorem runs_long : ∀ (s cur : List UInt8), (∀ c ∈ cur, hx c = true) → ∀ r ∈ runsGo s cur, Long r
  | [], cur, h, r, hr => by
    simp only [runsGo, endRun] at hr
    by_cases hl : 32 ≤ cur.length
    · rw [if_pos hl] at hr
      simp at hr; subst hr; exact ⟨hl, h⟩
    · rw [if_neg hl] at hr; cases hr
  | a :: s, cur, h, r, hr => by
    simp only [runsGo] at hr
    by_cases ha : hx a = true
    · rw [if_pos ha] at hr
      exact runs_long s (cur ++ [a]) (fun c hc => by
        rcases List.mem_append.1 hc with h1 | h1
        · exact h c h1
        · simp at h1; subst h1; exact ha) r hr
    · rw [if_neg ha] at hr
      rcases List.mem_append.1 hr with h1 | h1
      · exact runs_long [] cur h r h1
      · exact runs_long s [] (fun c hc => by cases hc) r h1
theorem runs_count_le : ∀ (s cur : List UInt8), (runsGo s cur).length ≤ s.length + 1
  | [], cur => by unfold runsGo endRun; split <;> simp
  | a :: s, cur => by
    unfold runsGo
    by_cases ha : hx a = true
    · rw [if_pos ha]; have := runs_count_le s (cur ++ [a]); simp; omega
    · rw [if_neg ha]
      have := runs_count_le s []
      have h2 : (endRun cur).length ≤ 1 := by unfold endRun; split <;> simp
      simp; omega

/-- the next 32 bytes are all hex digits -/
def long32 (L : List UInt8) : Bool := decide (32 ≤ L.length) && (L.take 32).all hx
def cntL : Bool → List UInt8 → Nat
  | _, [] => 0
  | pv, c :: r => (if pv = false ∧ long32 (c :: r) = true then 1 else 0) + cntL (hx c) r
def pl : List UInt8 → Nat
  | [] => 0
  | c :: r => if hx c = true then pl r + 1 else 0
theorem pl_take : ∀ (k : Nat) (L : List UInt8), (k ≤ L.length ∧ (L.take k).all hx = true) ↔ k ≤ pl L
  | 0, L => by simp
  | k + 1, [] => by simp [pl]
  | k + 1, c :: r => by
    have ih := pl_take k r
    simp only [pl, List.length_cons, List.take_succ_cons, List.all_cons, Bool.and_eq_true]
    by_cases h : hx c = true
    · rw [if_pos h]
      constructor
      · rintro ⟨h1, _, h2⟩
        have := ih.1 ⟨by omega, h2⟩; omega
      · intro h1
        obtain ⟨h2, h3⟩ := ih.2 (by omega)
        exact ⟨by omega, h, h3⟩
    · rw [if_neg h]
      constructor
      · rintro ⟨_, h2, _⟩; exact absurd h2 h
      · intro h1; omega
theorem long_pl (L : List UInt8) : long32 L = true ↔ 32 ≤ pl L := by
  unfold long32
  rw [Bool.and_eq_true, decide_eq_true_eq]
  exact pl_take 32 L
theorem pl_pos {c : UInt8} (r : List UInt8) (h : hx c = true) : pl (c :: r) = pl r + 1 := by rw [pl, if_pos h]
theorem pl_neg {c : UInt8} (r : List UInt8) (h : ¬ hx c = true) : pl (c :: r) = 0 := by rw [pl, if_neg h]
theorem go_pos {c : UInt8} (r cur : List UInt8) (h : hx c = true) : runsGo (c :: r) cur = runsGo r (cur ++ [c]) := by rw [runsGo, if_pos h]
theorem go_neg {c : UInt8} (r cur : List UInt8) (h : ¬ hx c = true) : runsGo (c :: r) cur = endRun cur ++ runsGo r [] := by rw [runsGo, if_neg h]
theorem endRun_length (cur : List UInt8) : (endRun cur).length = if 32 ≤ cur.length then 1 else 0 := by unfold endRun; split <;> simp
theorem cnt_true (c : UInt8) (r : List UInt8) : cntL true (c :: r) = cntL (hx c) r := by rw [cntL, if_neg (fun h => by cases h.1), Nat.zero_add]
theorem cnt_yes {c : UInt8} {r : List UInt8} (h : long32 (c :: r) = true) : cntL false (c :: r) = 1 + cntL (hx c) r := by rw [cntL, if_pos ⟨rfl, h⟩]
theorem cnt_no {c : UInt8} {r : List UInt8} {pv : Bool} (h : ¬ (pv = false ∧ long32 (c :: r) = true)) : cntL pv (c :: r) = cntL (hx c) r := by rw [cntL, if_neg h, Nat.zero_add]
theorem count_both : ∀ (L : List UInt8), (∀ cur : List UInt8, 0 < cur.length → (runsGo L cur).length = (if 32 ≤ cur.length + pl L then 1 else 0) + cntL true L) ∧ (runsGo L []).length = cntL false L
  | [] => ⟨fun cur _ => endRun_length cur, rfl⟩
  | c :: r => by
    obtain ⟨ihB, ihA⟩ := count_both r
    have hl := long_pl (c :: r)
    by_cases h : hx c = true
    · rw [pl_pos r h] at hl
      refine ⟨fun cur hc => ?_, ?_⟩
      · rw [go_pos r cur h, pl_pos r h, cnt_true, h, ihB (cur ++ [c]) (by simp)]
        rw [show (cur ++ [c]).length + pl r = cur.length + (pl r + 1) from by simp; omega]
      · rw [go_pos r [] h, List.nil_append, ihB [c] (by simp)]
        by_cases hh : 32 ≤ pl r + 1
        · rw [if_pos (by simp; omega), cnt_yes (hl.2 hh), h]
        · rw [if_neg (by simp; omega), cnt_no (fun h' => hh (hl.1 h'.2)), h, Nat.zero_add]
    · have hf : hx c = false := by simpa using h
      rw [pl_neg r h] at hl
      refine ⟨fun cur hc => ?_, ?_⟩
      · rw [go_neg r cur h, pl_neg r h, cnt_true, hf, List.length_append, ihA, endRun_length, Nat.add_zero]
      · rw [go_neg r [] h, List.length_append, ihA, cnt_no (fun h' => by have := hl.1 h'.2; omega), hf, endRun_length]
        simp
theorem cnt_runs (L : List UInt8) : (runs L).length = cntL false L := (count_both L).2
theorem cnt_short : ∀ (L : List UInt8) (pv : Bool), L.length < 32 → cntL pv L = 0
  | [], _, _ => rfl
  | c :: r, pv, h => by
    rw [cntL, cnt_short r _ (by simp at h; omega), if_neg]
    rintro ⟨_, h2⟩
    unfold long32 at h2
    rw [Bool.and_eq_true, decide_eq_true_eq] at h2
    omega
theorem cnt_le : ∀ (L : List UInt8) (pv : Bool), cntL pv L ≤ L.length
  | [], _ => Nat.le_refl _
  | c :: r, pv => by
    have := cnt_le r (hx c)
    rw [cntL]; split <;> simp <;> omega
end Go.Proofs.Qxb6605461a
