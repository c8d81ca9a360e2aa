/-
  isHexDigit (10), zzLowerHex (9), strings.Clone (11), the guard (4), zzCountLongRuns (7).
-/
import Derived.Test.Qxb6605461aShelf
import Derived.Test.Qxb6605461aPlain
import Derived.WalkKit
import Derived.ProofKit
import Derived.WalkSpells
import Derived.Lib.Strings
namespace Go.Proofs.Qxb6605461a
open Go.RowKit

theorem hx_true {c : UInt8} (h : (48 ≤ c.toNat ∧ c.toNat ≤ 57) ∨ (97 ≤ c.toNat ∧ c.toNat ≤ 102)) : hx c = true := by simpa [hx] using h
theorem hx_false {c : UInt8} (h : ¬ ((48 ≤ c.toNat ∧ c.toNat ≤ 57) ∨ (97 ≤ c.toNat ∧ c.toNat ≤ 102))) : hx c = false := by
  cases e : hx c with
  | false => rfl
  | true => exact absurd (by simpa [hx] using e) h

theorem ret_bool {a b : Bool} (h : a = b) : Ending.returned (.bool a) = .returned (.bool b) := by rw [h]
theorem isHex_any (c : UInt8) (w : World) : Calls Try.prog 10 #[.int .u8 (c.toNat : Int)] w fun e w' => e = .returned (.bool (hx c)) ∧ w' = w := by
  by_cases h1 : c.toNat < 48
  · rw [hx_false (c := c) (by omega)]
    go_enter Try.func10, Try.ntmps10
    go_wp2_with fail
    go_ret
    exact ⟨ret_bool (by first | rfl | (simp; omega)), rfl⟩
  · by_cases h2 : c.toNat ≤ 57
    · rw [hx_true (c := c) (by omega)]
      go_enter Try.func10, Try.ntmps10
      go_wp2_with fail
      go_ret
      exact ⟨ret_bool (by first | rfl | (simp; omega)), rfl⟩
    · by_cases h3 : c.toNat < 97
      · rw [hx_false (c := c) (by omega)]
        go_enter Try.func10, Try.ntmps10
        go_wp2_with fail
        go_ret
        exact ⟨ret_bool (by first | rfl | (simp; omega)), rfl⟩
      · by_cases h4 : c.toNat ≤ 102
        · rw [hx_true (c := c) (by omega)]
          go_enter Try.func10, Try.ntmps10
          go_wp2_with fail
          go_ret
          exact ⟨ret_bool (by first | rfl | (simp; omega)), rfl⟩
        · rw [hx_false (c := c) (by omega)]
          go_enter Try.func10, Try.ntmps10
          go_wp2_with fail
          go_ret
          exact ⟨ret_bool (by first | rfl | (simp; omega)), rfl⟩
theorem lower_any (c : UInt8) (w : World) : Calls Try.prog 9 #[.int .u8 (c.toNat : Int)] w fun e w' => e = .returned (.bool (hx c)) ∧ w' = w := by
  by_cases h1 : c.toNat < 48
  · rw [hx_false (c := c) (by omega)]
    go_enter Try.func9, Try.ntmps9
    go_wp2_with fail
    go_ret
    exact ⟨rfl, rfl⟩
  · by_cases h2 : c.toNat ≤ 57
    · rw [hx_true (c := c) (by omega)]
      go_enter Try.func9, Try.ntmps9
      go_wp2_with fail
      go_ret
      exact ⟨rfl, rfl⟩
    · by_cases h3 : c.toNat < 97
      · rw [hx_false (c := c) (by omega)]
        go_enter Try.func9, Try.ntmps9
        go_wp2_with fail
        go_ret
        exact ⟨rfl, rfl⟩
      · by_cases h4 : c.toNat ≤ 102
        · rw [hx_true (c := c) (by omega)]
          go_enter Try.func9, Try.ntmps9
          go_wp2_with fail
          go_ret
          exact ⟨rfl, rfl⟩
        · rw [hx_false (c := c) (by omega)]
          go_enter Try.func9, Try.ntmps9
          go_wp2_with fail
          go_ret
          exact ⟨rfl, rfl⟩
theorem clone_any (s : ByteArray) (w : World) (hlim : s.size ≤ 281474976710656) : Calls Try.prog 11 #[.string s] w fun e w' => e = .returned (.string s) ∧ Below w.heap.size w w' := by
  go_enter Try.func11, Try.ntmps11
  go_wp2_with fail
  refine (stringslite_Clone s w hlim).mono ?_
  rintro e w1 ⟨rfl, hb⟩
  go_wp2_with fail
  go_ret
  exact ⟨rfl, hb⟩
/-- some bool comes back, the world stands -/
def SaysB (w : World) (e : Ending) (w' : World) : Prop := ∃ r : Bool, e = .returned (.bool r) ∧ w' = w
theorem SaysB.mk' {w : World} (r : Bool) : SaysB w (.returned (.bool r)) w := ⟨r, rfl, rfl⟩
theorem guard_any (s t : ByteArray) (w : World) (hs : s.size ≤ maxLen) (ht : t.size ≤ maxLen) : Calls Try.prog 4 #[.string s, .string t] w (SaysB w) := by
  unfold maxLen at hs ht
  by_cases h1 : 1048576 < s.size
  · go_enter Try.func4, Try.ntmps4
    go_wp2_with fail
    go_ret
    exact SaysB.mk' _
  · by_cases h2 : 1048576 < t.size
    · go_enter Try.func4, Try.ntmps4
      go_wp2_with fail
      go_ret
      exact SaysB.mk' _
    · by_cases h3 : 1048576 < s.size + t.size
      · go_enter Try.func4, Try.ntmps4
        go_wp2_with fail
        go_ret
        exact SaysB.mk' _
      · go_enter Try.func4, Try.ntmps4
        go_wp2_with fail
        go_ret
        exact SaysB.mk' _
end Go.Proofs.Qxb6605461a
