/-
  indexGroup (function 14) and ZZIndexGroup (function 11) compute 'ig'.
-/
import Derived.Test.Qxb6606335aRows
import Derived.Test.Qxb6606335aPlain
import Derived.WalkKit
import Derived.ProofKit
import Derived.WalkSpells
import Derived.Laws.IdiomStrings
namespace Go.Proofs.Qxb6606335a
open Go.RowKit

def isD (c : UInt8) : Bool := decide (48 ≤ c.toNat ∧ c.toNat ≤ 57)
def igGo : List UInt8 → Nat → Option Nat
  | [], g => some g
  | c :: r, g => if isD c = true then igGo r (g * 10 + (c.toNat - 48)) else none
def ig (L : List UInt8) : Option Nat := if L.length = 3 then igGo L 0 else none

theorem bytes_conv (s : ByteArray) (w : World) : ∃ cap W1, (convert 9 28 (.string s)).run Try.prog w = .ok (.slice (some ⟨w.heap.size, 0, none⟩) s.size cap) W1 ∧ (∀ j (h : j < s.size), W1.cell? ⟨w.heap.size, j, none⟩ = some (.int .u8 (s[j].toNat : Int))) ∧ Below w.heap.size w W1 := by
  refine ⟨_, _, run_bytes_of_string w 9 28 5 s Try.underlying9 Try.underlying28 Try.underlying5, ?_, ?_⟩
  · intro j hj
    rw [cell_of_row _ w.heap.size j _ _ _ (heap_alloc_new w.drew _)]
    unfold bytesRow
    rw [Array.getElem?_append_left (by simpa using hj)]
    have h' : j < s.data.size := hj
    rw [Array.getElem?_map, Array.getElem?_eq_getElem h']
    rfl
  · exact ((Below.refl w.heap.size w).drew).alloc (Nat.le_refl _) _

set_option maxHeartbeats 1000000 in
theorem ig_any (s : ByteArray) (w : World) :
    Calls Try.prog 14 #[.string s] w fun e w' => e = .returned (.tuple #[.int .i64 (((ig s.data.toList).getD 0 : Nat) : Int), .bool (ig s.data.toList).isSome]) ∧ Below w.heap.size w w' := by
  have hle : s.data.toList.length = s.size := by cases s; simp [ByteArray.size]
  by_cases h3 : s.size = 3
  · have hs3 : Hid (ig s.data.toList = igGo s.data.toList 0) := by show _ = _; rw [ig, if_pos (by omega)]
    have h3i : ((s.size : Int) == 3) = true := by simp; omega
    obtain ⟨cap, W1, hcv, hcell, hb⟩ := bytes_conv s w
    have H3 : Hid (s.size = 3) := h3
    have hlt : s.size ≤ 3 := by omega
    have HLE : Hid (s.data.toList.length = s.size) := hle
    clear h3 hle
    go_enter Try.func14, Try.ntmps14
    go_wp2_with fail
    go_loop [2, 3, 4, 13] (fun r0 r1 t i => r0 = .int .i64 0 ∧ r1 = .bool false ∧ ∃ (k g : Nat), k ≤ s.size ∧ i = .int .i64 (k : Int) ∧ t = .int .i64 (g : Int) ∧ g < 10 ^ k ∧ igGo (s.data.toList.drop k) g = igGo s.data.toList 0) (fun _ _ _ i => s.size - (intOf i).toNat)
    case atStart => exact ⟨rfl, rfl, 0, 0, Nat.zero_le _, rfl, rfl, by decide, rfl⟩
    case round =>
      obtain ⟨rfl, rfl, k, g, hk, rfl, rfl, hg, htx⟩ := hrel
      have hg3 : g < 1000 := by
        have : 10 ^ k ≤ 10 ^ 3 := Nat.pow_le_pow_right (by omega) (by omega)
        have e : 10 ^ 3 = 1000 := by decide
        omega
      have HTX : Hid (igGo (s.data.toList.drop k) g = igGo s.data.toList 0) := htx
      clear htx
      by_cases hlt2 : k < s.size
      · have hc := hcell k hlt2
        have hdr : Hid (s.data.toList.drop k = s[k] :: s.data.toList.drop (k + 1)) := by
          have h1 : k < s.data.toList.length := by rw [HLE.out]; exact hlt2
          show _ = _
          rw [List.drop_eq_getElem_cons h1]
          rfl
        have HS : Hid (igGo (s[k] :: s.data.toList.drop (k + 1)) g = ig s.data.toList) := by
          show _ = _
          rw [← hdr.out, HTX.out, hs3.out]
        obtain ⟨c, hcc⟩ : ∃ c, c = s[k] := ⟨_, rfl⟩
        rw [← hcc] at hc HS
        have hc8 : c.toNat < 256 := c.toNat_lt
        clear hcc hdr hcell
        by_cases h1 : c.toNat < 48
        · have hn : Hid (ig s.data.toList = none) := by show _ = _; rw [← HS.out, igGo, if_neg (by simp [isD]; omega)]
          go_wp2_with fail
          go_ret2
          rw [hn.out]
          exact ⟨rfl, hb⟩
        · by_cases h2 : 57 < c.toNat
          · have hn : Hid (ig s.data.toList = none) := by show _ = _; rw [← HS.out, igGo, if_neg (by simp [isD]; omega)]
            go_wp2_with fail
            go_ret2
            rw [hn.out]
            exact ⟨rfl, hb⟩
          · have hn : Hid (igGo (s.data.toList.drop (k + 1)) (g * 10 + (c.toNat - 48)) = ig s.data.toList) := by show _ = _; rw [← HS.out, igGo, if_pos (by simp [isD]; omega)]
            go_wp2_with fail
            go_round
            case rel =>
              exact ⟨_, _, _, _, _, ⟨rfl, rfl, k + 1, by omega, by go_num, g * 10 + (c.toNat - 48), by go_num, by rw [Nat.pow_succ]; omega, by rw [hn.out, hs3.out]⟩, rfl, rfl, rfl, rfl, rfl⟩
            case measure => simp [intOf]; omega
      · obtain rfl : k = s.size := by omega
        have hn : Hid (ig s.data.toList = some g) := by
          show _ = _
          rw [hs3.out, ← HTX.out, List.drop_of_length_le (by rw [HLE.out]; omega)]
          rfl
        go_wp2_with fail
        go_ret2
        rw [hn.out]
        exact ⟨rfl, hb⟩
  · have hs3 : ig s.data.toList = none := by rw [ig, if_neg (by omega)]
    have h3i : ((s.size : Int) == 3) = false := by simp; omega
    go_enter Try.func14, Try.ntmps14
    go_wp2_with fail
    go_ret2
    rw [hs3]
    exact ⟨rfl, Below.refl _ _⟩

theorem zzig_any (s : ByteArray) (w : World) :
    Calls Try.prog 11 #[.string s] w fun e w' => e = .returned (.tuple #[.int .i64 (((ig s.data.toList).getD 0 : Nat) : Int), .bool (ig s.data.toList).isSome]) ∧ Below w.heap.size w w' := by
  go_enter Try.func11, Try.ntmps11
  go_wp2_with fail
  refine (ig_any s w).mono ?_
  rintro e w1 ⟨rfl, hb⟩
  go_wp2_with fail
  go_ret2
  exact ⟨rfl, hb⟩
end Go.Proofs.Qxb6606335a
