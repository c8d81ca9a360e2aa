/-
  zzAllLongHex (function 6) says yes where every string is long and of hex digits alone.
-/
import Derived.Test.Qxb6605461aRuns
namespace Go.Proofs.Qxb6605461a
open Go.RowKit

def LongB (b : ByteArray) : Prop := 32 ≤ b.size ∧ b.size ≤ 1048577 ∧ ∀ k (h : k < b.size), hx b[k] = true
theorem longB_of {L : List UInt8} (h : Long L) (hl : L.length ≤ 1048577) : LongB (str L) := by
  refine ⟨by rw [str_size]; exact h.1, by rw [str_size]; exact hl, fun k hk => ?_⟩
  rw [← getD_byte (str L) k hk, str_toList]
  have hk' : k < L.length := by rw [str_size] at hk; exact hk
  rw [List.getD_eq_getElem?_getD, List.getElem?_eq_getElem hk']
  exact h.2 _ (List.getElem_mem hk')
theorem runs_each_le : ∀ (s cur : List UInt8), ∀ r ∈ runsGo s cur, r.length ≤ cur.length + s.length
  | [], cur, r, hr => by
    simp only [runsGo, endRun] at hr
    by_cases hl : 32 ≤ cur.length
    · rw [if_pos hl] at hr
      simp at hr; subst hr; simp
    · rw [if_neg hl] at hr; cases hr
  | a :: s, cur, r, hr => by
    by_cases ha : hx a = true
    · rw [go_pos _ _ ha] at hr
      have := runs_each_le s _ r hr
      simp at this ⊢; omega
    · rw [go_neg _ _ ha] at hr
      rcases List.mem_append.1 hr with h1 | h1
      · have := runs_each_le [] cur r h1
        simp at this ⊢; omega
      · have := runs_each_le s [] r h1
        simp at this ⊢; omega

/-- what is known of a slice of strings -/
structure Shape (w : World) (o : Option Addr) (L : List (List UInt8)) : Prop where
  cell : ∀ j (h : j < L.length), ∃ g, o = some ⟨g, 0, none⟩ ∧ g < w.heap.size ∧ w.cell? ⟨g, j, none⟩ = some (.string (str (L[j]'h)))
  nil : L.length = 0 → o = none
theorem OwnR.shape {B : Nat} {v : Value} {L : List (List UInt8)} {w : World} (h : OwnR B v L w) : ∃ o c, v = .slice o L.length c ∧ Shape w o L := by
  by_cases h0 : L.length = 0
  · have hn : L = [] := List.length_eq_zero_iff.1 h0
    refine ⟨none, 0, ?_, ⟨fun j hj => by omega, fun _ => rfl⟩⟩
    rw [h.nil hn, h0]
  · obtain ⟨g, cap, rfl, hg1, hg2⟩ := h.form (by omega)
    exact ⟨some ⟨g, 0, none⟩, cap, rfl, ⟨fun j hj => ⟨g, rfl, hg2, h.cell rfl j hj⟩, fun e => absurd e h0⟩⟩

set_option maxHeartbeats 2000000 in
set_option maxRecDepth 20000 in
theorem all_any (o : Option Addr) (c : Nat) (L : List (List UInt8)) (w : World) (hS : Shape w o L) (hl : L.length ≤ 1048578) (hL : ∀ j (h : j < L.length), LongB (str (L[j]'h))) :
    Calls Try.prog 6 #[.slice o L.length c] w fun e w' => e = .returned (.bool true) ∧ w' = w := by
  go_enter Try.func6, Try.ntmps6
  go_wp2_with fail
  go_loop [3] (fun ti => ∃ i : Nat, i ≤ L.length ∧ ti = .int .i64 (i : Int)) (fun ti => L.length - (intOf ti).toNat)
  case atStart => exact ⟨0, by omega, rfl⟩
  case round =>
    obtain ⟨i, hi, rfl⟩ := hrel
    by_cases hlt : i < L.length
    · obtain ⟨g, ho, hg, hc⟩ := hS.cell i hlt
      obtain ⟨h32, hbl, hall⟩ := hL i hlt
      subst ho
      have HS : Hid (Shape w (some ⟨g, 0, none⟩) L) := hS
      clear hS hL
      generalize str (L[i]'hlt) = b at *
      have HA : Hid (∀ k (h : k < b.size), hx b[k] = true) := hall
      clear hall
      go_wp2_with fail
      go_loop [4] (fun tk => ∃ k : Nat, k ≤ b.size ∧ tk = .int .i64 (k : Int)) (fun tk => b.size - (intOf tk).toNat)
      case atStart => exact ⟨0, by omega, rfl⟩
      case round =>
        obtain ⟨k, hk, rfl⟩ := hrel
        by_cases hkl : k < b.size
        · have hh := HA.out k hkl
          go_wp2_with fail
          refine (lower_any _ _).mono ?_
          rintro e w' ⟨rfl, hw⟩
          subst hw
          rw [hh]
          clear hh
          go_wp2_with fail
          go_round
          case rel => exact ⟨k + 1, by omega, by go_num⟩
          case measure => simp [intOf]; omega
        · go_wp2_with fail
          go_round
          case rel => exact ⟨i + 1, by omega, by go_num⟩
          case measure => simp [intOf]; omega
    · go_wp2_with fail
      go_ret
      exact ⟨rfl, rfl⟩
end Go.Proofs.Qxb6605461a
