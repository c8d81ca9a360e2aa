/-
  The zzBytes_ guard of function 6: it answers some bool and turns nothing.
-/
import Derived.Test.Qxb6606440aRead
namespace Go.Proofs.Qxb6606440a
open Go.RowKit

set_option maxHeartbeats 4000000 in
set_option maxRecDepth 20000 in
theorem guard6 (pa : Option Addr) (pl pc pb po : Nat) (S : Nat → ByteArray) (ao : Option Addr) (len cap b off : Nat) (E : Nat → EvD) (la : Option Addr) (ll lc : Nat) (ra : Option Addr) (rl rc : Nat) (w : World) (hS : Strs w pa pl pc pb po S) (h : Evs w ao len cap b off E) (hl3 : ll ≤ maxLen) (hl4 : rl ≤ maxLen) :
    Calls Try.prog 6 #[.slice pa pl pc, .slice ao len cap, .slice la ll lc, .slice ra rl rc] w (SaysIf w True) := by
  have g1 := hS.row.le
  have g2 := hS.row.capm
  have g3 := h.row.le
  have g4 := h.row.capm
  unfold maxLen at g2 g4 hl3 hl4
  by_cases u1 : 1048576 < pl
  · go_enter Try.func6, Try.ntmps6
    go_wp2_with fail
    go_ret
    exact SaysIf.no
  go_enter Try.func6, Try.ntmps6
  go_wp2_with fail
  go_loop [8, 9, 10] (fun r t i => r = .bool false ∧ ∃ (T : Int) (k : Nat), 0 ≤ T ∧ T ≤ 1048576 ∧ t = .int .i64 T ∧ k ≤ pl ∧ i = .int .i64 (k : Int)) (fun _ _ i => pl - (intOf i).toNat)
  case atStart => exact ⟨rfl, pl, 0, by omega, by omega, by go_num, Nat.zero_le _, rfl⟩
  case round =>
    obtain ⟨rfl, T, k, hT0, hT1, rfl, hk, rfl⟩ := hrel
    by_cases hlt : k < pl
    · have ha := hS.row.ad (by omega)
      subst ha
      have hc := hS.at k hlt
      have hsz := hS.ok k hlt
      unfold maxLen at hsz
      clear hS h
      go_wp2_with fail
      · go_ret
        exact SaysIf.no
      · go_ret
        exact SaysIf.no
      · go_round
        case rel => exact ⟨rfl, _, k + 1, by omega, by omega, rfl, by omega, by go_num⟩
        case measure => simp [intOf]; omega
    · clear hS
      by_cases u2 : 1048576 < len
      · go_wp2_with fail
        go_ret
        exact SaysIf.no
      · by_cases u3 : 1048576 < T + (len : Int)
        · go_wp2_with fail
          go_ret
          exact SaysIf.no
        · go_wp2_with fail
          go_loop [8, 9, 11] (fun r t i => r = .bool false ∧ ∃ (T : Int) (k : Nat), 0 ≤ T ∧ T ≤ 1048576 ∧ t = .int .i64 T ∧ k ≤ len ∧ i = .int .i64 (k : Int)) (fun _ _ i => len - (intOf i).toNat)
          case atStart => exact ⟨rfl, _, 0, by omega, by omega, rfl, Nat.zero_le _, rfl⟩
          case round =>
            obtain ⟨rfl, T2, m, hS0, hS1, rfl, hm, rfl⟩ := hrel
            by_cases hlt2 : m < len
            · have ha := h.row.ad (by omega)
              subst ha
              have c2 := h.row.atj m hlt2 2 rfl
              have c3 := h.row.atj m hlt2 3 rfl
              have c5 := h.row.atj m hlt2 5 rfl
              obtain ⟨_, _, _, hsn⟩ := (h.ok m hlt2).snd
              have b1 := hsn.row.le
              have b2 := hsn.row.capm
              obtain ⟨_, _, _, _, hck⟩ := (h.ok m hlt2).clk
              have b3 := hck.le
              have b4 := hck.capm
              have b5 := (h.ok m hlt2).text
              unfold maxLen at b2 b4 b5
              clear h hsn hck
              go_wp2_with fail
              · go_ret
                exact SaysIf.no
              · go_ret
                exact SaysIf.no
              · go_ret
                exact SaysIf.no
              · go_ret
                exact SaysIf.no
              · go_ret
                exact SaysIf.no
              · go_ret
                exact SaysIf.no
              · go_round
                case rel => exact ⟨rfl, _, m + 1, by omega, by omega, rfl, by omega, by go_num⟩
                case measure => simp [intOf]; omega
            · clear h
              go_wp2_with fail
              all_goals first | (go_ret; exact SaysIf.no) | (go_ret; exact SaysIf.yes trivial)

end Go.Proofs.Qxb6606440a
