/-
  readers (function 17) and ZZReaders (function 13): a new slice of as many ints as there are events.
-/
import Derived.Test.Qxb6606440aTrace
import Derived.Test.Qxb6606440aCopy
namespace Go.Proofs.Qxb6606440a
open Go.RowKit

/-- the event's senders are numbers of events -/
def SndOk (w : World) (n : Nat) (e : EvD) : Prop := ∃ (sb so : Nat) (SZ : Nat → Int), Ints .i64 w e.sa e.sl e.sc sb so SZ ∧ ∀ j, j < e.sl → 0 ≤ SZ j ∧ SZ j < n
theorem SndOk.below {w w' : World} {n : Nat} {e : EvD} (h : SndOk w n e) (hb : Below w.heap.size w w') : SndOk w' n e := by
  obtain ⟨sb, so, SZ, h1, h2⟩ := h
  exact ⟨sb, so, SZ, h1.below hb, h2⟩

/-- block G holds n ints -/
structure Own64 (w : World) (G n : Nat) : Prop where
  size : Size w G n
  cell : ∀ p, p < n → ∃ z, w.cell? ⟨G, p, none⟩ = some (.int .i64 z) ∧ (Lit.int .i64 z).wf = true
theorem Own64.put {w : World} {G n : Nat} (h : Own64 w G n) (q : Nat) (x : Int) (hx : (Lit.int .i64 x).wf = true) : Own64 (w.setCell ⟨G, q, none⟩ (.int .i64 x)) G n := by
  refine ⟨h.size.set _ _, fun p hp => ?_⟩
  by_cases e : p = q
  · subst e
    obtain ⟨z, hz, _⟩ := h.cell p hp
    exact ⟨x, World.cell?_setCell_same' _ _ _ (by rw [hz]; rfl), hx⟩
  · rw [World.cell?_setCell_other _ _ _ _ (fun e' => by simp only [Addr.mk.injEq, true_and, and_true] at e'; omega)]
    exact h.cell p hp
theorem Own64.below {w w' : World} {G n B : Nat} (h : Own64 w G n) (hb : Below B w w') (hG : G < B) : Own64 w' G n :=
  ⟨h.size.below hb hG, fun p hp => by rw [hb.cell (p := ⟨G, p, none⟩) hG]; exact h.cell p hp⟩
theorem Own64.alloc {w : World} {G n : Nat} (h : Own64 w G n) (o : Obj) : Own64 (w.alloc o) G n := by
  have hG : G < w.heap.size := by obtain ⟨cur, t, hc, _⟩ := h.size; exact lt_of_block hc
  exact h.below (Below.alloc (Below.refl w.heap.size w) (Nat.le_refl _) o) hG

def SaysInts (w : World) (n : Nat) (e : Ending) (w' : World) : Prop :=
  ∃ G R, e = .returned (.slice (some ⟨G, 0, none⟩) n n) ∧ Ints .i64 w' (some ⟨G, 0, none⟩) n n G 0 R ∧ Below w.heap.size w w'

theorem own_ints {w w' : World} {G n : Nat} (h : Own64 w' G n) (hn : n ≤ 65536) (hb : Below w.heap.size w w') : SaysInts w n (.returned (.slice (some ⟨G, 0, none⟩) n n)) w' := by
  obtain ⟨R, hR⟩ := Deep.choose_lt (α := Int) (n := n) (p := fun p z => w'.cell? ⟨G, p, none⟩ = some (.int .i64 z) ∧ (Lit.int .i64 z).wf = true) h.cell
  have hG : G < w'.heap.size := by obtain ⟨cur, t, hc, _⟩ := h.size; exact lt_of_block hc
  refine ⟨G, R, rfl, ⟨⟨Nat.le_refl _, by unfold maxLen; omega, fun h => (by cases h), fun _ => rfl, fun _ => hG, fun i hi j v hv => ?_⟩, fun i hi => (hR i hi).2⟩, hb⟩
  have hj0 : j = 0 := by
    have := (List.getElem?_eq_some_iff.1 hv).1
    simpa using this
  subst hj0
  have hv' : Value.int .i64 (R i) = v := by simpa using hv
  simp only [Nat.mul_one, Nat.add_zero, Nat.zero_add]
  rw [(hR i hi).1, hv']

set_option maxHeartbeats 4000000 in
set_option maxRecDepth 20000 in
theorem readers_any (T : Nat) (pa : Option Addr) (pl pc : Nat) (vo : Option Addr) (len vc B : Nat) (E : Nat → EvD) (K : Nat → Value) (w : World)
    (hT : TrAt w T pa pl pc vo len vc B E K) (hlen : len ≤ 65536) (hs : ∀ i, i < len → SndOk w len (E i)) :
    Calls Try.prog 17 #[.pointer (some ⟨T, 0, none⟩)] w (SaysInts w len) := by
  obtain ⟨i0, hi, hz0, hz1, hz2⟩ := info_parts info3
  have c1 := hT.c1
  have hTl := hT.lt
  go_enter Try.func17, Try.ntmps17
  go_wp2_with (at_make; refine wpList_make_full _ rfl _ _ 25 rfl w.heap.size 3 i0 (.int .i64 0) 1 Try.underlying25 hi hz0 hz1 .i64 .i64 (len : Int) (len : Int) len rfl rfl rfl rfl (by rw [hz2]; omega) (by unfold maxLen; omega) (Nat.le_refl _) ?_)
  intro w1 hown hgrow
  have hb : Below w.heap.size w w1 := (Below.refl _ w).grown hgrow (Nat.le_refl _) (fun _ h => by cases h)
  have hO : Own64 w1 w.heap.size len := by
    have hown' : w1.ownsRow w.heap.size 3 1 (.slice (some ⟨w.heap.size, 0, none⟩) len len) len (List.replicate len (.int .i64 0)) := by simpa [toList_madeCells_one] using hown
    refine ⟨by have := made_size hown'; simpa using this, fun p hp => ⟨0, ?_, by decide⟩⟩
    rw [World.ownsRow.cellAt hown' p (by omega)]
    simp [hp]
  have d1 : w1.cell? ⟨T, 1, none⟩ = some (.slice vo len vc) := (hb.cell (p := ⟨T, 1, none⟩) hTl).trans c1
  clear hown hgrow c1
  go_wp2_with fail
  go_loopw [19] (fun t wr => ∃ i : Nat, i ≤ len ∧ t = .int .i64 (i : Int) ∧ Own64 wr w.heap.size len ∧ Below w.heap.size w wr) (fun t _ => len - (intOf t).toNat)
  case atStart => exact ⟨0, Nat.zero_le _, rfl, hO, hb⟩
  case round => as_aux_lemma =>
    obtain ⟨i, hi, rfl, hF, hbw⟩ := hrel
    clear hO hb d1
    by_cases hlt : i < len
    · have ha := hT.row.ad (by omega)
      subst ha
      have hrow := hT.row.below hbw
      have e0 : wr.cell? ⟨B, i * 7, none⟩ = some (.int .i64 (E i).proc) := by have := hrow.at0 i hlt rfl; simpa using this
      have e1 : wr.cell? ⟨B, i * 7 + 1, none⟩ = some (.int .u8 (E i).kind) := by have := hrow.atj i hlt 1 rfl; simpa using this
      have e2 : wr.cell? ⟨B, i * 7 + 2, none⟩ = some (.slice (E i).sa (E i).sl (E i).sc) := by have := hrow.atj i hlt 2 rfl; simpa using this
      obtain ⟨ka, kl, kc, hKi⟩ := hT.clk i hlt
      have e3 : wr.cell? ⟨B, i * 7 + 3, none⟩ = some (.slice ka kl kc) := by have := hrow.atj i hlt 3 (v := K i) rfl; rw [← hKi]; simpa using this
      have e4 : wr.cell? ⟨B, i * 7 + 4, none⟩ = some (.int .u64 (E i).lam) := by have := hrow.atj i hlt 4 rfl; simpa using this
      have e5 : wr.cell? ⟨B, i * 7 + 5, none⟩ = some (.string (E i).text) := by have := hrow.atj i hlt 5 rfl; simpa using this
      have e6 : wr.cell? ⟨B, i * 7 + 6, none⟩ = some (.int .i64 (E i).line) := by have := hrow.atj i hlt 6 rfl; simpa using this
      have hBl : B < wr.heap.size := hrow.lt (by omega)
      have hGl : w.heap.size < wr.heap.size := by obtain ⟨cur, t, hc, _⟩ := hF.size; exact lt_of_block hc
      obtain ⟨sb, so, SZ, hsn, hsr⟩ := (hs i hlt)
      have hsl := hsn.row.le
      have hsm := hsn.row.capm
      unfold maxLen at hsm
      have hF2 := fun o => hF.alloc o
      have hB2 := fun o => hbw.alloc hbw.size o
      have HF : Hid (Own64 wr w.heap.size len) := hF
      have HB : Hid (Below w.heap.size w wr) := hbw
      clear hbw hrow hT hKi hs
      have hF3 := hF2 (.cells #[.int .i64 (E i).proc, .int .u8 (E i).kind, .slice (E i).sa (E i).sl (E i).sc, .slice ka kl kc, .int .u64 (E i).lam, .string (E i).text, .int .i64 (E i).line] 52)
      have hB3 := hB2 (.cells #[.int .i64 (E i).proc, .int .u8 (E i).kind, .slice (E i).sa (E i).sl (E i).sc, .slice ka kl kc, .int .u64 (E i).lam, .string (E i).text, .int .i64 (E i).line] 52)
      clear hF hF2 hB2
      generalize (E i).sa = sa at *
      generalize (E i).sl = sl at *
      generalize (E i).sc = sc at *
      go_wp2_with fail
      go_loopw [26] (fun t ws => ∃ j : Nat, j ≤ sl ∧ t = .int .i64 (j : Int) ∧ Own64 ws w.heap.size len ∧ Below w.heap.size w ws) (fun t _ => sl - (intOf t).toNat)
      case atStart => exact ⟨0, Nat.zero_le _, rfl, hF3, hB3⟩
      case round =>
        obtain ⟨j, hj, rfl, hF4, hB4⟩ := hrel
        by_cases hjl : j < sl
        · have ha2 := hsn.row.ad (by omega)
          subst ha2
          have cs := (hsn.below hB4).at j hjl
          have hsb := hsn.row.lt (by omega)
          obtain ⟨g1, g2⟩ := hsr j hjl
          obtain ⟨s, hs⟩ : ∃ s : Nat, SZ j = (s : Int) := ⟨(SZ j).toNat, by omega⟩
          rw [hs] at cs g2
          obtain ⟨z, cz, hz⟩ := hF4.cell s (by omega)
          have cf := hF4.size.free s
          have hzb := bounds_i64 hz
          have n1 : sb ≠ w.heap.size := by omega
          have HF4 : Hid (Own64 wr w.heap.size len) := hF4
          have HB4 : Hid (Below w.heap.size w wr) := hB4
          clear hF4 hB4 hsn hs hF3 hB3 hz
          go_wp2_with fail
          go_roundw
          case rel =>
            exact ⟨j + 1, by omega, by go_num, HF4.out.put s _ (wrap64_wf _), HB4.out.setCell (Nat.le_refl _) _⟩
          case measure => simp [intOf]; omega
        · go_wp2_with fail
          go_roundw
          case rel => exact ⟨i + 1, by omega, by go_num, hF4, hB4⟩
          case measure => simp [intOf]; omega
    · obtain rfl : i = len := by omega
      go_wp2_with fail
      go_ret
      exact own_ints hF hlen hbw

theorem zzreaders_any (T : Nat) (pa : Option Addr) (pl pc : Nat) (vo : Option Addr) (len vc B : Nat) (E : Nat → EvD) (K : Nat → Value) (w : World)
    (hT : TrAt w T pa pl pc vo len vc B E K) (hlen : len ≤ 65536) (hs : ∀ i, i < len → SndOk w len (E i)) :
    Calls Try.prog 13 #[.pointer (some ⟨T, 0, none⟩)] w (SaysInts w len) := by
  go_enter Try.func13, Try.ntmps13
  go_wp2_with fail
  refine (readers_any T pa pl pc vo len vc B E K w hT hlen hs).mono ?_
  rintro e w1 ⟨G, R, rfl, h1, h2⟩
  go_wp2_with fail
  go_ret
  exact ⟨G, R, rfl, h1, h2⟩
end Go.Proofs.Qxb6606440a
