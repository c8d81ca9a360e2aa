/-
  zzDecimalDigits (function 13) computes 'dec'.
-/
import Derived.Test.Qxb6606335aRows
import Derived.Test.Qxb6606335aDec
import Derived.WalkKit
import Derived.ProofKit
import Derived.WalkSpells
import Derived.Lib.SmallJoins
namespace Go.Proofs.Qxb6606335a
open Go.RowKit

theorem info5 : (Try.prog.info? 5).map (fun i => (i.zero, i.size, i.bytes)) = some (some (.int .u8 0), 1, 1) := by kernel_rfl

def vals (L : List UInt8) : List Value := L.map fun b => Value.int .u8 (b.toNat : Int)
theorem vals_length (L : List UInt8) : (vals L).length = L.length := by simp [vals]
theorem vals_append (L M : List UInt8) : vals (L ++ M) = vals L ++ vals M := by simp [vals]
theorem vals_one (L : List UInt8) : ∀ u ∈ vals L, u.oneCell' = true := by
  intro u hu; simp [vals] at hu; obtain ⟨b, _, rfl⟩ := hu; rfl
theorem vals_get (L : List UInt8) (j : Nat) (h : j < L.length) : (vals L)[j]? = some (.int .u8 (L[j].toNat : Int)) := by simp [vals, h]

/-- the slice v owns the bytes L -/
def Own (B : Nat) (v : Value) (L : List UInt8) (w : World) : Prop := w.ownsRow B 5 1 v L.length (vals L)

theorem Own.form {B : Nat} {v : Value} {L : List UInt8} {w : World} (h : Own B v L w) (hn : 0 < L.length) : ∃ g cap, v = .slice (some ⟨g, 0, none⟩) L.length cap ∧ B ≤ g ∧ g < w.heap.size := by
  obtain ⟨g, cap, rfl⟩ := Joins.ownsRow_form h hn
  obtain ⟨h1, h2⟩ := h.lt g rfl
  exact ⟨g, cap, rfl, h1, h2⟩
theorem Own.alloc {B : Nat} {v : Value} {L : List UInt8} {w : World} (h : Own B v L w) (o : Obj) : Own B v L (w.alloc o) := World.ownsRow.alloc h o
theorem Own.below {B B2 g n cap : Nat} {L : List UInt8} {w w' : World} (h : Own B (.slice (some ⟨g, 0, none⟩) n cap) L w) (hb : Below B2 w w') (hg : g < B2) : Own B (.slice (some ⟨g, 0, none⟩) n cap) L w' := by
  obtain ⟨h1, h2⟩ := h
  refine ⟨h1, ?_⟩
  rcases h2 with ⟨h2, _⟩ | ⟨g', cap', cur, h2, hBg, hh, r⟩
  · simp at h2
  · have e := h2
    simp only [Value.slice.injEq, Option.some.injEq, Addr.mk.injEq, and_true] at e
    obtain ⟨rfl, rfl, rfl⟩ := e
    exact Or.inr ⟨g, cap, cur, rfl, hBg, (hb.block g hg).trans hh, r⟩
theorem Own.cell {B g cap : Nat} {L : List UInt8} {w : World} (h : Own B (.slice (some ⟨g, 0, none⟩) L.length cap) L w) (j : Nat) (hj : j < L.length) : w.cell? ⟨g, j, none⟩ = some (.int .u8 (L[j].toNat : Int)) := by
  rw [World.ownsRow.cellAt h j (by omega), vals_get L j hj]
theorem Own.free {B g cap : Nat} {L : List UInt8} {w : World} (h : Own B (.slice (some ⟨g, 0, none⟩) L.length cap) L w) (j : Nat) : w.frozen? ⟨g, j, none⟩ = false := World.ownsRow.frozenAt h j
theorem Own.put {B g n cap : Nat} {L : List UInt8} {w : World} (hn : n = L.length) (h : Own B (.slice (some ⟨g, 0, none⟩) n cap) L w) (j : Nat) (b : UInt8) : Own B (.slice (some ⟨g, 0, none⟩) n cap) (L.set j b) (w.setCell ⟨g, j, none⟩ (.int .u8 (b.toNat : Int))) := by
  subst hn
  have := (World.ownsRow.stored h j (.int .u8 (b.toNat : Int))).1
  simpa [Own, vals, List.map_set] using this

/-- append of the bytes M onto bytes of the call's own, as the walk takes it; R: what is owned behind it -/
theorem wpList_push {w : World} {ops : Array Oper} {rest : List Oper} {o : Oper} {a : Act} {Q : Exit → Act → World → Prop} (hgd : o.guard = none) (s x : Operand)
    (ho : o.op = .call { callee := .builtin .append, args := #[s, x], argTypes := #[28, 28] }) (B : Nat) (v : Value) (L M R : List UInt8) (hR : R = L ++ M) (hs : a.eval s = v) (hown : Own B v L w)
    (ad : Addr) (m c : Nat) (hm : m = M.length) (hx : a.eval x = .slice (some ad) m c) (hnews : ∀ j (hj : j < M.length), w.cell? (ad.add j) = some (.int .u8 (M[j].toNat : Int)))
    (hlen : R.length ≤ 1000000) (hpos : 0 < R.length) (hB : B ≤ w.heap.size)
    (h : ∀ g cap w', Own B (.slice (some ⟨g, 0, none⟩) R.length cap) R w' → B ≤ g → g < w'.heap.size → Below B w w' → wpList Try.prog ops Q rest (a.put o.dst (.slice (some ⟨g, 0, none⟩) R.length cap)) w') : wpList Try.prog ops Q (o :: rest) a w := by
  subst hm hR
  obtain ⟨i0, hi, hz0, hz1, hz2⟩ := info_parts info5
  have hlen' : L.length + M.length ≤ 1000000 := by simpa using hlen
  refine wpList_append_own w hgd s x 28 ho B 5 i0 (.int .u8 0) 1 1 Try.underlying28 hi hz0 hz1 hz2 rfl (by decide) v L.length (vals L) hs hown ad M.length c (vals M) hx (by simp [vals_length]) (fun j u hj => ?_) (vals_one M) (by unfold maxLen; omega) (by omega) hB (fun v' w' h1 h2 _ => ?_)
  · have hj' : j < M.length := by have := (List.getElem?_eq_some_iff.1 hj).1; simpa [vals_length] using this
    rw [hnews j hj', ← hj, vals_get M j hj']
  · rw [← vals_append, ← List.length_append] at h1
    obtain ⟨g, cap, rfl, hg1, hg2⟩ := Own.form h1 hpos
    exact h g cap w' h1 hg1 hg2 ((Below.refl B w).grown h2 hB (fun k hk => (hown.lt k hk).1))

theorem new_one (w : World) (b : UInt8) (z : Int) (hz : z = (b.toNat : Int)) (t : TypeId) : ∀ j (hj : j < [b].length), (w.alloc (.cells #[.int .u8 z] t)).cell? ((⟨w.heap.size, 0, none⟩ : Addr).add j) = some (.int .u8 ([b][j].toNat : Int)) := by
  intro j hj
  obtain rfl : j = 0 := by simpa using hj
  subst hz
  simp [Addr.add]

/-- the second loop's array behind j rounds -/
def turned (L : List UInt8) (j : Nat) : List UInt8 := L.reverse.take j ++ List.replicate (L.length - j) 0
theorem turned_length (L : List UInt8) (j : Nat) (h : j ≤ L.length) : (turned L j).length = L.length := by simp [turned]; omega
theorem turned_set (L : List UInt8) (j : Nat) (h : j < L.length) : (turned L j).set j (L[L.length - 1 - j]'(by omega)) = turned L (j + 1) := by
  apply List.ext_getElem?
  intro i
  have h1 : (L.reverse.take j).length = j := by simp; omega
  simp only [turned, List.getElem?_set]
  by_cases hi : j = i
  · subst hi
    rw [if_pos rfl, if_pos (by simp; omega), List.getElem?_append_left (by simp; omega), List.getElem?_take, if_pos (by omega), List.getElem?_reverse h, List.getElem?_eq_getElem]
  · rw [if_neg hi]
    by_cases h2 : i < j
    · rw [List.getElem?_append_left (by simp; omega), List.getElem?_append_left (by simp; omega)]
      simp [h2, show i < j + 1 by omega]
    · rw [List.getElem?_append_right (by simp; omega), List.getElem?_append_right (by simp; omega)]
      simp only [List.length_take, List.length_reverse, List.getElem?_replicate]
      rw [Nat.min_eq_left (by omega), Nat.min_eq_left (by omega)]
      by_cases h3 : i < L.length
      · rw [if_pos (by omega), if_pos (by omega)]
      · rw [if_neg (by omega), if_neg (by omega)]
theorem turned_all (L : List UInt8) : turned L L.length = L.reverse := by
  simp only [turned, Nat.sub_self, List.replicate_zero, List.append_nil]
  exact List.take_of_length_le (by simp)

set_option maxHeartbeats 1000000 in
theorem digits_any (n : Nat) (w : World) (hn : n ≤ 9223372036854775807) :
    Calls Try.prog 13 #[.int .i64 (n : Int)] w fun e w' => ∃ v, e = .returned v ∧ Own w.heap.size v (dec n) w' ∧ Below w.heap.size w w' := by
  by_cases h0 : n = 0
  · subst h0
    go_enter Try.func13, Try.ntmps13
    go_wp2_with fail
    go_ret
    exact ⟨_, rfl, World.ownsRow_lit w #[.int .u8 48] 1 (Nat.le_refl _) (by decide) rfl, (Below.refl _ w).alloc (Nat.le_refl _) _⟩
  · have hpos : 0 < n := by omega
    obtain ⟨i0, hi, hz0, hz1, hz2⟩ := info_parts info5
    go_enter Try.func13, Try.ntmps13
    go_wp2_with fail
    go_loopw [0, 3] (fun t v wr => ∃ (k m : Nat) (L : List UInt8), m * 10 ^ k ≤ 9223372036854775807 ∧ t = .int .i64 (m : Int) ∧ L.length = k ∧ k ≤ 19 ∧ Own w.heap.size v L wr ∧ L ++ rdig (19 - k) m = rdig 19 n ∧ Below w.heap.size w wr) (fun t _ _ => (intOf t).toNat)
    case atStart =>
      refine ⟨0, n, [], by omega, rfl, rfl, by omega, World.ownsRow_nil _ _ _ _, by simp, Below.refl _ _⟩
    case round =>
      obtain ⟨k, m, L, hm, rfl, hlk, hk19, hown, htx, hb⟩ := hrel
      have hml := m10_le hm
      have hbs := hb.size
      by_cases hm0 : 0 < m
      · have hk := k10_le hm0 hm
        have HTX : Hid (L ++ rdig (19 - k) m = rdig 19 n) := htx
        have HL : Hid (L.length = k) := hlk
        clear htx hlk
        have hd : (48 + (m : Int) % 10) = ((dgt (m % 10)).toNat : Int) := by rw [dgt_toNat _ (by omega)]; push_cast; rfl
        have HD : Hid ((48 + (m : Int) % 10) = ((dgt (m % 10)).toNat : Int)) := hd
        clear hd
        go_wp2_with (at_builtin; refine wpList_push rfl _ _ rfl w.heap.size _ L [dgt (m % 10)] (L ++ [dgt (m % 10)]) rfl rfl (hown.alloc _) ⟨wr.heap.size, 0, none⟩ 1 1 rfl rfl ?c1 ?c2 ?c3 ?c4 ?_)
        case c1 => exact new_one wr _ _ HD.out _
        case c2 => have := HL.out; simp; omega
        case c3 => simp
        case c4 => simp; omega
        intro g cap w1 hown1 hg1 hg2 hb1
        have hb2 : Hid (Below w.heap.size w w1) := (hb.alloc hbs _).trans hb1
        clear hb1 hb hown
        go_wp2_with fail
        go_roundw
        case rel =>
          refine ⟨k + 1, m / 10, _, m10_step hm, by go_num, by simp [HL.out], by omega, hown1, ?_, hb2.out⟩
          rw [← HTX.out, show 19 - k = (19 - (k + 1)) + 1 from by omega, rdig_pos hm0]
          simp
        case measure => simp [intOf]; omega
      · obtain rfl : m = 0 := by omega
        rw [rdig_zero, List.append_nil] at htx
        have hL0 : 0 < L.length := by
          rw [htx, rdig_pos (f := 18) hpos]; simp
        have HTX : Hid (L = rdig 19 n) := htx
        obtain ⟨g, cap, rfl, hg1, hg2⟩ := hown.form hL0
        have hl19 : L.length ≤ 19 := by omega
        clear htx hlk hm
        go_wp2_with (at_make; refine wpList_make_full _ rfl _ _ 28 rfl wr.heap.size 5 i0 (.int .u8 0) 1 Try.underlying28 hi hz0 hz1 .i64 .i64 (L.length : Int) (L.length : Int) L.length rfl rfl rfl rfl (by rw [hz2]; omega) (by unfold maxLen; omega) (Nat.le_refl _) ?_)
        intro w1 hown1 hgrow1
        have hb1 : Below wr.heap.size wr w1 := (Below.refl _ _).grown hgrow1 (Nat.le_refl _) (fun _ h => by cases h)
        have hgl : g < w1.heap.size := by have := hgrow1.size; omega
        have hlt1 : wr.heap.size < w1.heap.size := (hown1.lt _ rfl).2
        have hown2 : Own w.heap.size (.slice (some ⟨g, 0, none⟩) L.length cap) L w1 := hown.below hb1 hg2
        have hownA : Own wr.heap.size (.slice (some ⟨wr.heap.size, 0, none⟩) L.length L.length) (turned L 0) w1 := by
          simpa [Own, turned, vals, toList_madeCells_one] using hown1
        have hb2 : Hid (Below w.heap.size w w1) := hb.trans (hb1.mono hbs)
        clear hown1 hgrow1 hown hb hb1
        generalize wr.heap.size = B2 at *
        go_wp2_with fail
        go_loopw [5] (fun t ws => ∃ j : Nat, j ≤ L.length ∧ t = .int .i64 (j : Int) ∧ Own w.heap.size (.slice (some ⟨g, 0, none⟩) L.length cap) L ws ∧ Own B2 (.slice (some ⟨B2, 0, none⟩) L.length L.length) (turned L j) ws ∧ Below w.heap.size w ws) (fun t _ => L.length - (intOf t).toNat)
        case atStart => exact ⟨0, Nat.zero_le _, rfl, hown2, hownA, hb2.out⟩
        case round =>
          obtain ⟨j, hj, rfl, ho1, ho2, hbw⟩ := hrel
          by_cases hjl : j < L.length
          · have htl := turned_length L j hj
            have hc1 := ho1.cell (L.length - 1 - j) (by omega)
            have ho2' : Own B2 (.slice (some ⟨B2, 0, none⟩) (turned L j).length L.length) (turned L j) wr := by rw [htl]; exact ho2
            have hc2 := ho2'.cell j (by omega)
            have hf2 := ho2'.free j
            have hput := Own.put htl.symm ho2 j (L[L.length - 1 - j]'(by omega))
            rw [turned_set L j hjl] at hput
            have HP : Hid (Own B2 (.slice (some ⟨B2, 0, none⟩) L.length L.length) (turned L (j + 1)) (wr.setCell ⟨B2, j, none⟩ (.int .u8 ((L[L.length - 1 - j]'(by omega)).toNat : Int)))) := hput
            clear ho2' hput ho2
            go_wp2_with fail
            go_roundw
            case rel => exact ⟨j + 1, by omega, by go_num, ho1.below (B2 := B2) ((Below.refl B2 wr).setCell (show B2 ≤ (⟨B2, j, none⟩ : Addr).block from Nat.le_refl _) _) hg2, HP.out, hbw.setCell hbs _⟩
            case measure => simp [intOf]; omega
          · obtain rfl : j = L.length := by omega
            go_wp2_with fail
            go_ret
            refine ⟨_, rfl, ?_, hbw⟩
            have hde : dec n = turned L L.length := by rw [turned_all, dec, if_neg h0, HTX.out]
            rw [hde]
            have := turned_length L L.length (Nat.le_refl _)
            rw [Own, this]
            refine ⟨by simp [vals_length, this], ?_⟩
            rcases ho2.2 with h | ⟨g', cap', cur, h, h1, h2, h3, h4, h5, h6⟩
            · simp at h
            · refine Or.inr ⟨g', cap', cur, ?_, by omega, h2, by omega, h4, h5, by rw [← h6, this]⟩
              rw [this] at h; exact h
end Go.Proofs.Qxb6606335a
