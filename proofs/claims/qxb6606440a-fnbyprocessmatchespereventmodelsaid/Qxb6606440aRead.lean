/-
  The functions that only read the arguments: zzProcessesInRange (8), zzTraceBytes (7), the zzBytes_ guards (6, 12, 14).
-/
import Derived.Test.Qxb6606440aOpen
import Derived.WalkSpells
import Derived.BigRegion
namespace Go.Proofs.Qxb6606440a
open Go.RowKit

/-- some bool comes back, the world stands; where it is true, X -/
def SaysIf (w : World) (X : Prop) (e : Ending) (w' : World) : Prop := ∃ r : Bool, e = .returned (.bool r) ∧ w' = w ∧ (r = true → X)
theorem SaysIf.no {w : World} {X : Prop} : SaysIf w X (.returned (.bool false)) w := ⟨false, rfl, rfl, fun h => by cases h⟩
theorem SaysIf.yes {w : World} {X : Prop} (h : X) : SaysIf w X (.returned (.bool true)) w := ⟨true, rfl, rfl, fun _ => h⟩

set_option maxHeartbeats 1000000 in
theorem inRange_any (ao : Option Addr) (len cap b off : Nat) (E : Nat → EvD) (n : Nat) (w : World) (h : Evs w ao len cap b off E) :
    Calls Try.prog 8 #[.slice ao len cap, .int .i64 (n : Int)] w (SaysIf w (∀ i, i < len → 0 ≤ (E i).proc ∧ (E i).proc < n)) := by
  have hl := h.row.le
  have hm := h.row.capm
  unfold maxLen at hm
  go_enter Try.func8, Try.ntmps8
  go_wp2_with fail
  go_loop [4, 5] (fun r t => r = .bool false ∧ ∃ i : Nat, i ≤ len ∧ t = .int .i64 (i : Int) ∧ ∀ j, j < i → 0 ≤ (E j).proc ∧ (E j).proc < n) (fun _ t => len - (intOf t).toNat)
  case atStart => exact ⟨rfl, 0, Nat.zero_le _, rfl, fun j hj => by omega⟩
  case round =>
    obtain ⟨rfl, i, hi, rfl, hj⟩ := hrel
    have HJ : Hid (∀ j, j < i → 0 ≤ (E j).proc ∧ (E j).proc < n) := hj
    clear hj
    by_cases hlt : i < len
    · have ha := h.row.ad (by omega)
      subst ha
      have hc := h.row.at0 i hlt rfl
      have hwf := bounds_i64 (h.ok i hlt).proc
      by_cases h1 : (E i).proc < 0
      · go_wp2_with fail
        go_ret
        exact SaysIf.no
      · by_cases h2 : (E i).proc < n
        · go_wp2_with fail
          go_round
          case rel =>
            refine ⟨rfl, i + 1, by omega, by go_num, fun j hj => ?_⟩
            by_cases e : j = i
            · subst e; omega
            · exact HJ.out j (by omega)
          case measure => simp [intOf]; omega
        · go_wp2_with fail
          go_ret
          exact SaysIf.no
    · go_wp2_with fail
      go_ret
      exact SaysIf.yes (fun j hj => HJ.out j (by omega))

/-- some int comes back; where it is at most 2^20, X -/
def SaysSum (w : World) (X : Prop) (e : Ending) (w' : World) : Prop := ∃ r : Int, e = .returned (.int .i64 r) ∧ Below w.heap.size w w' ∧ (r ≤ 1048576 → X)
theorem SaysSum.over {w w' : World} {X : Prop} {r : Int} (h : ¬ r ≤ 1048576) (hb : Below w.heap.size w w') : SaysSum w X (.returned (.int .i64 r)) w' := ⟨r, rfl, hb, fun h' => absurd h' h⟩
theorem SaysSum.ok {w w' : World} {X : Prop} {r : Int} (hb : Below w.heap.size w w') (h : X) : SaysSum w X (.returned (.int .i64 r)) w' := ⟨r, rfl, hb, fun _ => h⟩

set_option maxHeartbeats 2000000 in
set_option maxRecDepth 20000 in
theorem traceBytes_any (pa : Option Addr) (pl pc pb po : Nat) (S : Nat → ByteArray) (ao : Option Addr) (len cap b off : Nat) (E : Nat → EvD) (la ra : Option Addr) (ll lc rl rc : Nat) (w : World)
    (hS : Strs w pa pl pc pb po S) (h : Evs w ao len cap b off E) (h1 : pl ≤ 65536) (h2 : len ≤ 65536) (h3 : ll ≤ 65536) (h4 : rl ≤ 65536) :
    Calls Try.prog 7 #[.slice pa pl pc, .slice ao len cap, .slice la ll lc, .slice ra rl rc] w (SaysSum w (∀ i, i < len → (E i).cl ≤ 1048576)) := by
  go_enter Try.func7, Try.ntmps7
  go_wp2_with fail
  · go_ret
    exact SaysSum.over (by omega) (Below.refl _ _)
  · have ht : 16 * (pl : Int) + 96 * (len : Int) + 8 * (ll : Int) + 8 * (rl : Int) ≤ 1048576 := by omega
    go_loop [8, 9, 10] (fun r t i => r = .int .i64 0 ∧ ∃ (T : Int) (k : Nat), 0 ≤ T ∧ T ≤ 1048576 ∧ t = .int .i64 T ∧ k ≤ pl ∧ i = .int .i64 (k : Int)) (fun _ _ i => pl - (intOf i).toNat)
    case atStart => exact ⟨rfl, _, 0, by omega, ht, rfl, Nat.zero_le _, rfl⟩
    case round =>
      obtain ⟨rfl, T, k, hT0, hT1, rfl, hk, rfl⟩ := hrel
      by_cases hlt : k < pl
      · have ha := hS.row.ad (by omega)
        subst ha
        have hc := hS.at k hlt
        have hsz := hS.ok k hlt
        unfold maxLen at hsz
        go_wp2_with fail
        · go_ret
          exact SaysSum.over (by omega) (Below.refl _ _)
        · go_ret
          exact SaysSum.over (by omega) (Below.refl _ _)
        · go_round
          case rel => exact ⟨rfl, _, k + 1, by omega, by omega, rfl, by omega, by go_num⟩
          case measure => simp [intOf]; omega
      · go_wp2_with fail
        go_loopw [8, 9, 11] (fun r t i wr => r = .int .i64 0 ∧ ∃ (T : Int) (k : Nat), 0 ≤ T ∧ T ≤ 1048576 ∧ t = .int .i64 T ∧ k ≤ len ∧ i = .int .i64 (k : Int) ∧ (∀ j, j < k → (E j).cl ≤ 1048576) ∧ Below w.heap.size w wr) (fun _ _ i _ => len - (intOf i).toNat)
        case atStart => exact ⟨rfl, T, 0, hT0, hT1, rfl, Nat.zero_le _, rfl, fun j hj => by omega, Below.refl _ _⟩
        case round =>
          obtain ⟨rfl, T2, m, hS0, hS1, rfl, hm, rfl, hcl, hb⟩ := hrel
          have HCL : Hid (∀ j, j < m → (E j).cl ≤ 1048576) := hcl
          have HB : Hid (Below w.heap.size w wr) := hb
          have h' := h.below hb
          clear hcl hb
          by_cases hlt2 : m < len
          · have ha := h'.row.ad (by omega)
            subst ha
            have c2 := h'.row.atj m hlt2 2 rfl
            have c3 := h'.row.atj m hlt2 3 rfl
            have c5 := h'.row.atj m hlt2 5 rfl
            clear h' h
            by_cases t1 : 1048576 < (E m).sl
            · go_wp2_with fail
              go_ret
              exact SaysSum.over (by decide) HB.out
            · by_cases t2 : 1048576 < (E m).cl
              · go_wp2_with fail
                go_ret
                exact SaysSum.over (by decide) HB.out
              · by_cases t3 : 1048576 < (E m).text.size
                · go_wp2_with fail
                  go_ret
                  exact SaysSum.over (by decide) HB.out
                · go_wp2_with fail
                  go_region
                  go_wp2_with fail
                  · go_ret
                    exact SaysSum.over (by omega) HB.out.drew
                  · go_roundw
                    case rel =>
                      refine ⟨rfl, _, m + 1, by omega, by omega, rfl, by omega, by go_num, fun j hj => ?_, HB.out.drew⟩
                      by_cases e : j = m
                      · subst e; omega
                      · exact HCL.out j (by omega)
                    case measure => simp [intOf]; omega
          · go_wp2_with fail
            go_ret
            exact SaysSum.ok HB.out (fun j hj => HCL.out j (by omega))

end Go.Proofs.Qxb6606440a
