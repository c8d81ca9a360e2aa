/-
  tileIndexPath (function 12) and ZZTileIndexPath (function 7): they compute 'tip'.
-/
import Derived.Test.Qxb6606335aGroup
namespace Go.Proofs.Qxb6606335a
open Go.RowKit

def zeros : List UInt8 := [0,0,0,0,0,0,0,0,0,0,0,0,0,0,0,0,0,0,0,0,0,0,0,0,0,0,0,0,0,0,0,0,0]

theorem tip_start (w : World) (t t' : TypeId) : Tip w.heap.size 33 zeros ((w.alloc (.cells (u8s zeros) t)).alloc (.cells #[.int .i64 33] t')) := by
  refine ⟨rfl, ⟨t, ?_⟩, ⟨t', ?_⟩⟩
  · rw [Below.heap_alloc _ _ _ (by simp)]; exact heap_alloc_new w _
  · simpa using heap_alloc_new (w.alloc (.cells (u8s zeros) t)) (.cells #[.int .i64 33] t')

theorem k_le {m k : Nat} (hm : 0 < m) (h : m * 1000 ^ k ≤ 9223372036854775) : k ≤ 5 := by
  rcases Nat.lt_or_ge 5 k with hk | hk
  · exfalso
    have h1 : 1000 ^ 6 ≤ 1000 ^ k := Nat.pow_le_pow_right (by omega) hk
    have h2 : 1 * 1000 ^ k ≤ m * 1000 ^ k := Nat.mul_le_mul_right _ hm
    have h3 : 1000 ^ 6 = 1000000000000000000 := by decide
    omega
  · omega
theorem m_step {m k : Nat} (h : m * 1000 ^ k ≤ 9223372036854775) : m / 1000 * 1000 ^ (k + 1) ≤ 9223372036854775 := by
  have h1 : m / 1000 * 1000 ^ (k + 1) = m / 1000 * 1000 * 1000 ^ k := by rw [Nat.pow_succ, Nat.mul_assoc, Nat.mul_comm 1000 (1000 ^ k)]
  have h2 : m / 1000 * 1000 * 1000 ^ k ≤ m * 1000 ^ k := Nat.mul_le_mul_right _ (Nat.div_mul_le_self m 1000)
  omega
theorem m_le {m k : Nat} (h : m * 1000 ^ k ≤ 9223372036854775) : m ≤ 9223372036854775 := by
  have h1 : m * 1 ≤ m * 1000 ^ k := Nat.mul_le_mul_left _ (Nat.pow_pos (by omega))
  omega

theorem tipGo_zero (f : Nat) (S : List UInt8) : tipGo f 0 S = S := by cases f <;> simp [tipGo]
theorem drop_set3 (L : List UInt8) (i g : Nat) (h : i + 3 ≤ L.length) : (grpSet L i g).drop i = grp g ++ L.drop (i + 3) := by
  apply List.ext_getElem?
  intro k
  unfold grpSet grp
  simp only [List.getElem?_drop, List.getElem?_set, List.length_set, List.cons_append, List.nil_append]
  match k with
  | 0 => simp; omega
  | 1 => simp; omega
  | 2 => simp; omega
  | k + 3 =>
    rw [if_neg (by omega), if_neg (by omega), if_neg (by omega)]
    simp [List.getElem?_drop]
    congr 1; omega
theorem drop_set1 (L : List UInt8) (i : Nat) (b : UInt8) (h : i < L.length) : (L.set i b).drop i = b :: L.drop (i + 1) := by
  apply List.ext_getElem?
  intro k
  simp only [List.getElem?_drop, List.getElem?_set]
  match k with
  | 0 => simp; omega
  | k + 1 => rw [if_neg (by omega)]; simp [List.getElem?_drop]; congr 1; omega

theorem round_text (L : List UInt8) (j g : Nat) (h : L.length = 33) (hj : j + 5 ≤ 33) :
    ((grpSet (L.set (j + 4) 47) (j + 1) g).set j 120).drop j = 120 :: (grp g ++ 47 :: L.drop (j + 5)) := by
  have e1 : (grpSet (L.set (j + 4) 47) (j + 1) g).length = 33 := by simp [grpSet, h]
  rw [drop_set1 _ _ _ (by omega), drop_set3 _ _ _ (by simp [h]; omega), drop_set1 _ (j + 4) _ (by omega)]

theorem size5 (w : World) : (sizeOf 5).run Try.prog w = .ok 1 w := by kernel_rfl
theorem len30 : Try.prog.arrayLen 30 = 33 := by kernel_rfl
theorem elem30 : Try.prog.elem 30 = 5 := by kernel_rfl
theorem slice_back (w : World) (N i : Nat) (hi : i < 33) : (Instr.sliceAt 30 (.pointer (some ⟨N, 0, none⟩)) (some (.int .i64 (i : Int))) none none).run Try.prog w = .ok (.slice (some ⟨N, i, none⟩) (33 - i) (33 - i)) w := by
  rw [run_sliceAt_array_l (P := Try.prog) w 30 ⟨N, 0, none⟩ Try.underlying30 .i64 (i : Int) (by omega) (by rw [len30]; omega), len30, elem30, size5]
  simp only [Result.andThen, slicedAt, Int.toNat_natCast]
  rw [if_neg (by omega), Addr.add_lit]
  simp

set_option maxHeartbeats 1000000 in
theorem tip_any (n : Nat) (w : World) (hn : n ≤ 9223372036854775807) :
    Calls Try.prog 12 #[.int .i64 (n : Int)] w fun e w' => e = .returned (.string ⟨(tip n).toArray⟩) ∧ Below w.heap.size w w' := by
  have hlt : n % 1000 < 1000 := Nat.mod_lt _ (by omega)
  have hlt2 : (n : Int) % 1000 < 1000 := by omega
  have ht := tip_start w 30 3
  have HT : Hid (Tip w.heap.size 33 zeros ((w.alloc (.cells (u8s zeros) 30)).alloc (.cells #[.int .i64 33] 3))) := ht
  clear ht
  have hb0 : Below w.heap.size w ((w.alloc (.cells (u8s zeros) 30)).alloc (.cells #[.int .i64 33] 3)) := ((Below.refl _ w).alloc (Nat.le_refl _) _).alloc (by simp) _
  go_enter Try.func12, Try.ntmps12
  go_wp2_with fail
  rw [show ((n : Int) % 1000) = ((n % 1000 : Nat) : Int) from by omega]
  refine (group_any w.heap.size 30 (n % 1000) zeros _ (by omega) hlt HT.out).mono ?_
  rintro e w1 ⟨rfl, h1, hb1⟩
  have hb2 := hb0.trans hb1
  clear hb0 hb1 HT
  go_wp2_with fail
  go_loopw [0] (fun t wr => ∃ (k i m : Nat) (L : List UInt8), i + 5 * k = 30 ∧ m * 1000 ^ k ≤ 9223372036854775 ∧ t = .int .i64 (m : Int) ∧ Tip w.heap.size i L wr ∧ tipGo (7 - k) m (L.drop i) = tip n ∧ Below w.heap.size w wr) (fun t _ => (intOf t).toNat)
  case atStart =>
    refine ⟨0, 30, n / 1000, _, by omega, by omega, by go_num, h1, ?_, hb2⟩
    rw [drop_set3 _ _ _ (by decide)]
    rfl
  case round =>
    obtain ⟨k, i, m, L, hik, hm, rfl, hT, htx, hb⟩ := hrel
    have hml := m_le hm
    have hlen := hT.len
    by_cases h0 : 0 < m
    · have hk5 := k_le h0 hm
      obtain ⟨j, rfl⟩ : ∃ j, i = j + 5 := ⟨i - 5, by omega⟩
      have hci := hT.cix
      have hfi := hT.fix
      have hfb := hT.free
      have hc4 := hT.cell (j + 4) (by omega)
      have HTt : Hid (tipGo (7 - k) m (L.drop (j + 5)) = tip n) := htx
      have H1 : Hid (Tip w.heap.size (j + 4) (L.set (j + 4) 47) ((wr.setCell ⟨w.heap.size + 1, 0, none⟩ (.int .i64 ((j + 4 : Nat) : Int))).setCell ⟨w.heap.size, j + 4, none⟩ (.int .u8 47))) := (hT.go (j + 4)).put (j + 4) 47
      have HB : Hid (Below w.heap.size w ((wr.setCell ⟨w.heap.size + 1, 0, none⟩ (.int .i64 ((j + 4 : Nat) : Int))).setCell ⟨w.heap.size, j + 4, none⟩ (.int .u8 47))) := (hb.setCell (by show w.heap.size ≤ w.heap.size + 1; omega) _).setCell (Nat.le_refl _) _
      clear htx hT hb hb2
      go_wp2_with fail
      rw [show ((m : Int) % 1000) = ((m % 1000 : Nat) : Int) from by omega, show ((j : Int) + 5 - 1) = ((j + 4 : Nat) : Int) from by omega]
      refine (group_any w.heap.size (j + 1) (m % 1000) (L.set (j + 4) 47) _ (by omega) (by omega) H1.out).mono ?_
      rintro e w2 ⟨rfl, hT2, hbb⟩
      have hb3 : Hid (Below w.heap.size w w2) := HB.out.trans hbb
      clear hbb HB hci hfi hfb hc4
      have hl2 := hT2.len
      have hci := hT2.cix
      have hfi := hT2.fix
      have hfb := hT2.free
      have hc0 := hT2.cell j (by omega)
      have HT2 : Hid (Tip w.heap.size (j + 1) (grpSet (L.set (j + 4) 47) (j + 1) (m % 1000)) w2) := hT2
      clear hT2
      go_wp2_with fail
      go_roundw
      case rel =>
        have hA : Hid (tipGo (7 - (k + 1)) (m / 1000) (((grpSet (L.set (j + 4) 47) (j + 1) (m % 1000)).set j 120).drop j) = tip n) := by
          rw [round_text _ _ _ hlen (by omega), ← HTt.out]
          rw [show 7 - k = (7 - (k + 1)) + 1 from by omega]
          show _ = if 0 < m then _ else _
          rw [if_pos h0]
        exact ⟨k + 1, j, m / 1000, _, by omega, m_step hm, by go_num, (HT2.out.go j).put j 120, hA.out, (hb3.out.setCell (by show w.heap.size ≤ w.heap.size + 1; omega) _).setCell (Nat.le_refl _) _⟩
      case measure => simp [intOf]; omega
    · obtain rfl : m = 0 := by omega
      have e1 : L.drop i = tip n := by rw [← htx]; exact (tipGo_zero _ _).symm
      have hci := hT.cix
      have hcv : ∀ cap, (convert 28 9 (.slice (some ⟨w.heap.size, i, none⟩) (33 - i) cap)).run Try.prog wr = .ok (.string ⟨(tip n).toArray⟩) wr := by
        intro cap
        have e2 : (L.drop i).length = 33 - i := by simp [hlen]
        have := run_convert_bytes_back (P := Try.prog) wr 28 9 5 ⟨w.heap.size, i, none⟩ cap (L.drop i) Try.underlying28 Try.underlying5 Try.underlying9 (fun j hj => by
          have := hT.cell (i + j) (by simp at hj; omega)
          rw [Addr.add_lit]; simpa using this)
        rw [e2, e1] at this
        exact this
      have hsl := slice_back wr w.heap.size i (by omega)
      clear htx e1 hT hb2 hm
      go_wp2_with fail
      go_ret
      exact ⟨rfl, hb⟩

/-- ZZTileIndexPath (function 7) -/
theorem zztip_any (n : Nat) (w : World) (hn : n ≤ 9223372036854775807) :
    Calls Try.prog 7 #[.int .i64 (n : Int)] w fun e w' => e = .returned (.string ⟨(tip n).toArray⟩) ∧ Below w.heap.size w w' := by
  go_enter Try.func7, Try.ntmps7
  go_wp2_with fail
  refine (tip_any n w hn).mono ?_
  rintro e w1 ⟨rfl, hb⟩
  go_wp2_with fail
  go_ret
  exact ⟨rfl, hb⟩
end Go.Proofs.Qxb6606335a
