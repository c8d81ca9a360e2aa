/-
  byProcess (function 15) and ZZByProcess (function 9): they fill a new array with the tallies 'run'.
-/
import Derived.Test.Qxb6606440aTrace
import Derived.Test.Qxb6606440aTally
namespace Go.Proofs.Qxb6606440a
open Go.RowKit

theorem info42 : (Try.prog.info? 42).map (fun i => (i.zero, i.size, i.bytes)) = some (some (.agg #[.int .i64 0, .int .i64 0, .int .i64 0, .int .i64 0, .int .u64 0, .int .u64 0]), 6, 48) := by kernel_rfl

def Tal.cells (t : Tal) : List Value := [.int .i64 (t.ev : Int), .int .i64 (t.lo : Int), .int .i64 (t.se : Int), .int .i64 (t.re : Int), .int .u64 t.mj, .int .u64 t.fi]
/-- block G holds the tallies F 0 .. F (n - 1), six cells each -/
structure Tals (w : World) (G n : Nat) (F : Nat → Tal) : Prop where
  size : Size w G (n * 6)
  cell : ∀ p, p < n → ∀ m v, (F p).cells[m]? = some v → w.cell? ⟨G, p * 6 + m, none⟩ = some v

theorem Tals.at0 {w : World} {G n : Nat} {F : Nat → Tal} (h : Tals w G n F) (p : Nat) (hp : p < n) : w.cell? ⟨G, p * 6, none⟩ = some (.int .i64 ((F p).ev : Int)) := h.cell p hp 0 _ rfl
theorem Tals.below {w w' : World} {G n B : Nat} {F : Nat → Tal} (h : Tals w G n F) (hb : Below B w w') (hG : G < B) : Tals w' G n F :=
  ⟨h.size.below hb hG, fun p hp m v hv => (hb.cell (p := ⟨G, p * 6 + m, none⟩) hG).trans (h.cell p hp m v hv)⟩
theorem Tals.drew {w : World} {G n : Nat} {F : Nat → Tal} (h : Tals w G n F) : Tals w.drew G n F := ⟨h.size.drew, h.cell⟩
theorem Tals.congr {w : World} {G n : Nat} {F F' : Nat → Tal} (h : Tals w G n F) (e : ∀ p, p < n → F p = F' p) : Tals w G n F' := ⟨h.size, fun p hp m v hv => h.cell p hp m v (by rw [e p hp]; exact hv)⟩

/-- one field of one tally written -/
theorem Tals.put {w : World} {G n : Nat} {F : Nat → Tal} (h : Tals w G n F) (q : Nat) (hq : q < n) (k : Nat) (u : Value) (t : Tal) (hk : k < 6) (ht : t.cells = (F q).cells.set k u) :
    Tals (w.setCell ⟨G, q * 6 + k, none⟩ u) G n (fun p => if p = q then t else F p) := by
  refine ⟨h.size.set _ _, fun p hp m v hv => ?_⟩
  have hlen : ∀ x : Tal, x.cells.length = 6 := fun _ => rfl
  have hm : m < 6 := by have := (List.getElem?_eq_some_iff.1 hv).1; rwa [hlen] at this
  by_cases e : p = q
  · subst e
    rw [if_pos rfl, ht, List.getElem?_set] at hv
    by_cases ek : k = m
    · subst ek
      rw [if_pos rfl, if_pos (by rw [hlen]; exact hk)] at hv
      obtain ⟨x, hx⟩ := h.size.cell (p * 6 + k) (by omega)
      rw [World.cell?_setCell_same' _ _ _ (by rw [hx]; rfl)]
      exact hv
    · rw [if_neg ek] at hv
      rw [World.cell?_setCell_other _ _ _ _ (fun e => by simp only [Addr.mk.injEq, true_and, and_true] at e; omega)]
      exact h.cell p hp m v hv
  · rw [if_neg e] at hv
    rw [World.cell?_setCell_other _ _ _ _ (fun e' => by simp only [Addr.mk.injEq, true_and, and_true] at e'; omega)]
    exact h.cell p hp m v hv

theorem Tals.alloc {w : World} {G n : Nat} {F : Nat → Tal} (h : Tals w G n F) (o : Obj) : Tals (w.alloc o) G n F := by
  have hG : G < w.heap.size := by obtain ⟨cur, t, hc, _⟩ := h.size; exact lt_of_block hc
  exact h.below (Below.alloc (Below.refl w.heap.size w) (Nat.le_refl _) o) hG
def upd (F : Nat → Tal) (q : Nat) (t : Tal) : Nat → Tal := fun p => if p = q then t else F p
theorem upd_same (F : Nat → Tal) (q : Nat) (t : Tal) : upd F q t q = t := by simp [upd]
theorem Tals.open' {w : World} {G n : Nat} {F : Nat → Tal} (h : Tals w G n F) (q : Nat) {t : Tal} (ht : t = F q) : Tals w G n (upd F q t) := h.congr fun p _ => by
  by_cases e : p = q
  · subst e; rw [upd_same, ht]
  · simp [upd, e]
theorem Tals.field {w : World} {G n q : Nat} {F : Nat → Tal} {t : Tal} (h : Tals w G n (upd F q t)) (hq : q < n) (k : Nat) (u : Value) (t' : Tal) (hk : k < 6) (ht : t'.cells = t.cells.set k u) :
    Tals (w.setCell ⟨G, q * 6 + k, none⟩ u) G n (upd F q t') := (h.put q hq k u t' hk (by rw [upd_same]; exact ht)).congr fun p _ => by
  by_cases e : p = q
  · subst e; simp [upd]
  · simp [upd, e]
theorem Tals.get {w : World} {G n q : Nat} {F : Nat → Tal} {t : Tal} (h : Tals w G n (upd F q t)) (hq : q < n) (k : Nat) {v : Value} (hv : t.cells[k]? = some v) : w.cell? ⟨G, q * 6 + k, none⟩ = some v := h.cell q hq k v (by rw [upd_same]; exact hv)

/-- a cell of another block behind two stores into G and a new block -/
theorem far_cell {w : World} {G b o : Nat} {v : Value} (h : w.cell? ⟨b, o, none⟩ = some v) (hne : b ≠ G) (x : Nat) (u : Value) : (w.setCell ⟨G, x, none⟩ u).cell? ⟨b, o, none⟩ = some v := (cell_far hne w x o u).trans h
theorem new_cell {w : World} {b o : Nat} {v : Value} (h : w.cell? ⟨b, o, none⟩ = some v) (ob : Obj) : (w.alloc ob).cell? ⟨b, o, none⟩ = some v :=
  (World.cell?_of_block (Below.heap_alloc _ _ _ (World.block_lt_of_cell? w _ h))).trans h

def SaysTals (w : World) (n : Nat) (F : Nat → Tal) (e : Ending) (w' : World) : Prop :=
  ∃ G, e = .returned (.slice (some ⟨G, 0, none⟩) n n) ∧ w.heap.size ≤ G ∧ G < w'.heap.size ∧ Tals w' G n F ∧ Below w.heap.size w w'

theorem made_six (n p m : Nat) (v : Value) (hp : p < n) (hm : m < 6) (hv : (Tal.zero).cells[m]? = some v) :
    (madeCells (Value.agg #[.int .i64 0, .int .i64 0, .int .i64 0, .int .i64 0, .int .u64 0, .int .u64 0]).cells (n * 6)).toList[p * 6 + m]? = some v := by
  rw [Array.getElem?_toList]
  unfold madeCells
  have hlt : p * 6 + m < n * 6 := by omega
  have e : (p * 6 + m) % 6 = m := by omega
  rw [Array.getElem?_map, Array.getElem?_range, if_pos hlt, ← hv]
  show some ((#[Value.int .i64 0, .int .i64 0, .int .i64 0, .int .i64 0, .int .u64 0, .int .u64 0] : Array Value)[(p * 6 + m) % 6]!) = _
  rw [e]
  match m, hm with
  | 0, _ => rfl
  | 1, _ => rfl
  | 2, _ => rfl
  | 3, _ => rfl
  | 4, _ => rfl
  | 5, _ => rfl
theorem mx_eq (a x y : Int) : (if a < IntKind.u64.wrap (x - y) then IntKind.u64.wrap (x - y) else a) = max a (sub64 x y) := by
  have e : IntKind.u64.wrap (x - y) = sub64 x y := by unfold IntKind.wrap sub64; rfl
  rw [e]
  omega
theorem run_step {E : Nat → EvD} {Z R : Nat → Int} {i q : Nat} {t t' : Tal} {k : Int} (hq : (E i).proc = (q : Int)) (ht : t = run E Z R i q) (hk : kindOf (E i).kind (E i).sl (R i) = k) (h : t.step k (Z i) = t' := by rfl) : run E Z R (i + 1) = upd (run E Z R i) q t' := by
  funext p
  have e1 : (E i).proc.toNat = q := by omega
  unfold upd
  rw [run, e1, hk]
  by_cases e : p = q
  · subst e; rw [if_pos rfl, if_pos rfl, ← h, ht]
  · rw [if_neg e, if_neg e]

set_option maxHeartbeats 4000000 in
set_option maxRecDepth 20000 in
theorem byProc_any (T : Nat) (pa : Option Addr) (pl pc : Nat) (vo : Option Addr) (len vc B : Nat) (E : Nat → EvD) (K : Nat → Value) (la : Option Addr) (lc lb lo : Nat) (Z : Nat → Int) (ra : Option Addr) (rc rb ro : Nat) (R : Nat → Int) (w : World)
    (hT : TrAt w T pa pl pc vo len vc B E K) (hZ : Ints .u64 w la len lc lb lo Z) (hR : Ints .i64 w ra len rc rb ro R) (hpl : pl ≤ 65536) (hlen : len ≤ 65536) (hp : ∀ i, i < len → 0 ≤ (E i).proc ∧ (E i).proc < pl) (hk : ∀ i, i < len → (Lit.int .u8 (E i).kind).wf = true) :
    Calls Try.prog 15 #[.pointer (some ⟨T, 0, none⟩), .slice la len lc, .slice ra len rc] w (SaysTals w pl (run E Z R len)) := by
  obtain ⟨i0, hi, hz0, hz1, hz2⟩ := info_parts info42
  have c0 := hT.c0
  have c1 := hT.c1
  have hTl := hT.lt
  go_enter Try.func15, Try.ntmps15
  go_wp2_with (at_make; refine wpList_make_full _ rfl _ _ 29 rfl w.heap.size 42 i0 _ 6 Try.underlying29 hi hz0 hz1 .i64 .i64 (pl : Int) (pl : Int) pl rfl rfl rfl rfl (by rw [hz2]; omega) (by unfold maxLen; omega) (Nat.le_refl _) ?_)
  intro w1 hown hgrow
  have hb : Below w.heap.size w w1 := (Below.refl _ w).grown hgrow (Nat.le_refl _) (fun _ h => by cases h)
  have hTal : Tals w1 w.heap.size pl (run E Z R 0) := by
    rcases hown.2 with ⟨h, _⟩ | ⟨g, cap', cur, h, _, hg, _, _, hcs, htk⟩
    · simp at h
    · simp only [Value.slice.injEq, Option.some.injEq, Addr.mk.injEq, and_true, true_and] at h
      obtain ⟨rfl, rfl⟩ := h
      refine ⟨⟨cur, 42, hg, hcs⟩, fun p hp m v hv => ?_⟩
      have hm : m < 6 := (List.getElem?_eq_some_iff.1 hv).1
      rw [List.take_of_length_le (by rw [Array.length_toList]; omega)] at htk
      have : cur[p * 6 + m]? = some v := by
        rw [← Array.getElem?_toList, htk]
        exact made_six pl p m v hp hm hv
      simp only [World.cell?, hg]
      exact this
  have d1 : w1.cell? ⟨T, 1, none⟩ = some (.slice vo len vc) := (hb.cell (p := ⟨T, 1, none⟩) hTl).trans c1
  clear hown hgrow c0 c1
  go_wp2_with fail
  go_loopw [23] (fun t wr => ∃ i : Nat, i ≤ len ∧ t = .int .i64 (i : Int) ∧ Tals wr w.heap.size pl (run E Z R i) ∧ Below w.heap.size w wr) (fun t _ => len - (intOf t).toNat)
  case atStart => exact ⟨0, Nat.zero_le _, rfl, hTal, hb⟩
  case round =>
    obtain ⟨i, hi, rfl, hF, hbw⟩ := hrel
    clear hTal hb d1
    by_cases hlt : i < len
    · have ha := hT.row.ad (by omega)
      have ha2 := hZ.row.ad (by omega)
      have ha3 := hR.row.ad (by omega)
      subst ha ha2 ha3
      have hrow := hT.row.below hbw
      have e0 : wr.cell? ⟨B, i * 7, none⟩ = some (.int .i64 (E i).proc) := by have := hrow.at0 i hlt rfl; simpa using this
      have e1 : wr.cell? ⟨B, i * 7 + 1, none⟩ = some (.int .u8 (E i).kind) := by have := hrow.atj i hlt 1 rfl; simpa using this
      have e2 : wr.cell? ⟨B, i * 7 + 2, none⟩ = some (.slice (E i).sa (E i).sl (E i).sc) := by have := hrow.atj i hlt 2 rfl; simpa using this
      obtain ⟨ka, kl, kc, hKi⟩ := hT.clk i hlt
      have e3 : wr.cell? ⟨B, i * 7 + 3, none⟩ = some (.slice ka kl kc) := by have := hrow.atj i hlt 3 (v := K i) rfl; rw [← hKi]; simpa using this
      have e4 : wr.cell? ⟨B, i * 7 + 4, none⟩ = some (.int .u64 (E i).lam) := by have := hrow.atj i hlt 4 rfl; simpa using this
      have e5 : wr.cell? ⟨B, i * 7 + 5, none⟩ = some (.string (E i).text) := by have := hrow.atj i hlt 5 rfl; simpa using this
      have e6 : wr.cell? ⟨B, i * 7 + 6, none⟩ = some (.int .i64 (E i).line) := by have := hrow.atj i hlt 6 rfl; simpa using this
      have hBl : B < wr.heap.size := hrow.lt (by omega)
      have hz := (hZ.below hbw).at i hlt
      have hr := (hR.below hbw).at i hlt
      have hlbl := hZ.row.lt (by omega)
      have hrbl := hR.row.lt (by omega)
      have hBl0 := hT.row.lt (by omega)
      have hZb := bounds_u64 (hZ.ok i hlt)
      obtain ⟨hp0, hp1⟩ := hp i hlt
      obtain ⟨q, hq⟩ : ∃ q : Nat, (E i).proc = (q : Int) := ⟨(E i).proc.toNat, by omega⟩
      rw [hq] at e0 hp1
      have hqp : q < pl := by omega
      obtain ⟨t, ht⟩ : ∃ t, t = run E Z R i q := ⟨_, rfl⟩
      have hFo := hF.open' q ht
      have f0 : wr.cell? ⟨w.heap.size, q * 6, none⟩ = some (.int .i64 (t.ev : Int)) := hFo.get hqp 0 rfl
      have f1 := hFo.get hqp 1 rfl
      have f2 := hFo.get hqp 2 rfl
      have f3 := hFo.get hqp 3 rfl
      have fz := hF.size.free
      have hGl : w.heap.size < wr.heap.size := by obtain ⟨cur, t, hc, _⟩ := hF.size; exact lt_of_block hc
      have n1 : lb ≠ w.heap.size := by omega
      have n7 : rb ≠ w.heap.size := by omega
      have n8 : w.heap.size ≠ rb := by omega
      have n9 : rb < wr.heap.size := by omega
      have hRb := bounds_i64 (hR.ok i hlt)
      have r := run_le E Z R q i
      rw [← ht] at r
      obtain ⟨r1, r2, r3, r4⟩ := r
      have hrng := run_range E Z R q len (fun j hj => bounds_u64 (hZ.ok j hj)) i (by omega)
      rw [← ht] at hrng
      obtain ⟨⟨m0, m1⟩, m2, m3⟩ := hrng
      have HQ : Hid ((E i).proc = (q : Int)) := hq
      have HT : Hid (t = run E Z R i q) := ht
      have HF : Hid (Tals wr w.heap.size pl (upd (run E Z R i) q t)) := hFo
      have HBW : Hid (Below w.heap.size w wr) := hbw
      have hkb := bounds_u8 (hk i hlt)
      clear hF hbw hrow hT hZ hR hq hp hk hKi ht hFo
      by_cases k0 : (E i).kind = 0
      · by_cases s0 : 0 < (E i).sl
        · have KV : Hid (kindOf (E i).kind (E i).sl (R i) = 3) := by show _ = _; rw [k0, kindOf, if_pos rfl, if_pos s0]
          go_wp2_with fail
          have hTW : Tals (((wr.setCell ⟨w.heap.size, q * 6, none⟩ (.int .i64 ((t.ev : Int) + 1))).setCell ⟨w.heap.size, q * 6 + 3, none⟩ (.int .i64 ((t.re : Int) + 1))).alloc (Obj.cells #[Value.int .i64 (q : Int), Value.int .u8 0, Value.slice (E i).sa (E i).sl (E i).sc, Value.slice ka kl kc, Value.int .u64 (E i).lam, Value.string (E i).text, Value.int .i64 (E i).line] 52)) w.heap.size pl (upd (run E Z R i) q ⟨t.ev + 1, t.lo, t.se, t.re + 1, t.mj, t.fi⟩) := Tals.alloc ((HF.out.field hqp 0 (.int .i64 ((t.ev : Int) + 1)) ⟨t.ev + 1, t.lo, t.se, t.re, t.mj, t.fi⟩ (by omega) rfl).field hqp 3 (.int .i64 ((t.re : Int) + 1)) ⟨t.ev + 1, t.lo, t.se, t.re + 1, t.mj, t.fi⟩ (by omega) rfl) _
          have hzW : (((wr.setCell ⟨w.heap.size, q * 6, none⟩ (.int .i64 ((t.ev : Int) + 1))).setCell ⟨w.heap.size, q * 6 + 3, none⟩ (.int .i64 ((t.re : Int) + 1))).alloc (Obj.cells #[Value.int .i64 (q : Int), Value.int .u8 0, Value.slice (E i).sa (E i).sl (E i).sc, Value.slice ka kl kc, Value.int .u64 (E i).lam, Value.string (E i).text, Value.int .i64 (E i).line] 52)).cell? ⟨lb, lo + i, none⟩ = some (.int .u64 (Z i)) := new_cell (far_cell (far_cell hz n1 _ _) n1 _ _) _
          have hBW : Below w.heap.size w (((wr.setCell ⟨w.heap.size, q * 6, none⟩ (.int .i64 ((t.ev : Int) + 1))).setCell ⟨w.heap.size, q * 6 + 3, none⟩ (.int .i64 ((t.re : Int) + 1))).alloc (Obj.cells #[Value.int .i64 (q : Int), Value.int .u8 0, Value.slice (E i).sa (E i).sl (E i).sc, Value.slice ka kl kc, Value.int .u64 (E i).lam, Value.string (E i).text, Value.int .i64 (E i).line] 52)) := Below.alloc ((HBW.out.setCell (Nat.le_refl _) _).setCell (Nat.le_refl _) _) (by simp; omega) _
          have HK : Hid (run E Z R (i + 1) = upd (run E Z R i) q ⟨t.ev + 1, t.lo, t.se, t.re + 1, max t.mj (sub64 (Z i) t.fi), Z i⟩) := run_step HQ.out HT.out (KV.out)
          generalize (((wr.setCell ⟨w.heap.size, q * 6, none⟩ (.int .i64 ((t.ev : Int) + 1))).setCell ⟨w.heap.size, q * 6 + 3, none⟩ (.int .i64 ((t.re : Int) + 1))).alloc (Obj.cells #[Value.int .i64 (q : Int), Value.int .u8 0, Value.slice (E i).sa (E i).sl (E i).sc, Value.slice ka kl kc, Value.int .u64 (E i).lam, Value.string (E i).text, Value.int .i64 (E i).line] 52)) = W at *
          have g4 := hTW.get hqp 4 rfl
          have g5 := hTW.get hqp 5 rfl
          have gz := hTW.size.free
          have HTW : Hid (Tals W w.heap.size pl (upd (run E Z R i) q ⟨t.ev + 1, t.lo, t.se, t.re + 1, t.mj, t.fi⟩)) := hTW
          have HBW' : Hid (Below w.heap.size w W) := hBW
          clear hTW hBW e0 e1 e2 e3 e4 e5 e6 f0 f1 f2 f3 fz hz hr
          go_region
          go_wp2_with fail
          go_roundw
          case rel =>
            refine ⟨i + 1, by omega, by go_num, ?_, ((HBW'.out.setCell (Nat.le_refl _) _).setCell (Nat.le_refl _) _).drew⟩
            rw [HK.out, mx_eq]
            exact Tals.drew ((HTW.out.field hqp 4 _ ⟨t.ev + 1, t.lo, t.se, t.re + 1, max t.mj (sub64 (Z i) t.fi), t.fi⟩ (by omega) rfl).field hqp 5 _ ⟨t.ev + 1, t.lo, t.se, t.re + 1, max t.mj (sub64 (Z i) t.fi), Z i⟩ (by omega) rfl)
          case measure => simp [intOf]; omega
        · by_cases s1 : 0 < R i
          · have KV : Hid (kindOf (E i).kind (E i).sl (R i) = 2) := by show _ = _; rw [k0, kindOf, if_pos rfl, if_neg s0, if_pos s1]
            go_wp2_with fail
            have hTW : Tals (((wr.setCell ⟨w.heap.size, q * 6, none⟩ (.int .i64 ((t.ev : Int) + 1))).setCell ⟨w.heap.size, q * 6 + 2, none⟩ (.int .i64 ((t.se : Int) + 1))).alloc (Obj.cells #[Value.int .i64 (q : Int), Value.int .u8 0, Value.slice (E i).sa (E i).sl (E i).sc, Value.slice ka kl kc, Value.int .u64 (E i).lam, Value.string (E i).text, Value.int .i64 (E i).line] 52)) w.heap.size pl (upd (run E Z R i) q ⟨t.ev + 1, t.lo, t.se + 1, t.re, t.mj, t.fi⟩) := Tals.alloc ((HF.out.field hqp 0 (.int .i64 ((t.ev : Int) + 1)) ⟨t.ev + 1, t.lo, t.se, t.re, t.mj, t.fi⟩ (by omega) rfl).field hqp 2 (.int .i64 ((t.se : Int) + 1)) ⟨t.ev + 1, t.lo, t.se + 1, t.re, t.mj, t.fi⟩ (by omega) rfl) _
            have hzW : (((wr.setCell ⟨w.heap.size, q * 6, none⟩ (.int .i64 ((t.ev : Int) + 1))).setCell ⟨w.heap.size, q * 6 + 2, none⟩ (.int .i64 ((t.se : Int) + 1))).alloc (Obj.cells #[Value.int .i64 (q : Int), Value.int .u8 0, Value.slice (E i).sa (E i).sl (E i).sc, Value.slice ka kl kc, Value.int .u64 (E i).lam, Value.string (E i).text, Value.int .i64 (E i).line] 52)).cell? ⟨lb, lo + i, none⟩ = some (.int .u64 (Z i)) := new_cell (far_cell (far_cell hz n1 _ _) n1 _ _) _
            have hBW : Below w.heap.size w (((wr.setCell ⟨w.heap.size, q * 6, none⟩ (.int .i64 ((t.ev : Int) + 1))).setCell ⟨w.heap.size, q * 6 + 2, none⟩ (.int .i64 ((t.se : Int) + 1))).alloc (Obj.cells #[Value.int .i64 (q : Int), Value.int .u8 0, Value.slice (E i).sa (E i).sl (E i).sc, Value.slice ka kl kc, Value.int .u64 (E i).lam, Value.string (E i).text, Value.int .i64 (E i).line] 52)) := Below.alloc ((HBW.out.setCell (Nat.le_refl _) _).setCell (Nat.le_refl _) _) (by simp; omega) _
            have HK : Hid (run E Z R (i + 1) = upd (run E Z R i) q ⟨t.ev + 1, t.lo, t.se + 1, t.re, max t.mj (sub64 (Z i) t.fi), Z i⟩) := run_step HQ.out HT.out (KV.out)
            generalize (((wr.setCell ⟨w.heap.size, q * 6, none⟩ (.int .i64 ((t.ev : Int) + 1))).setCell ⟨w.heap.size, q * 6 + 2, none⟩ (.int .i64 ((t.se : Int) + 1))).alloc (Obj.cells #[Value.int .i64 (q : Int), Value.int .u8 0, Value.slice (E i).sa (E i).sl (E i).sc, Value.slice ka kl kc, Value.int .u64 (E i).lam, Value.string (E i).text, Value.int .i64 (E i).line] 52)) = W at *
            have g4 := hTW.get hqp 4 rfl
            have g5 := hTW.get hqp 5 rfl
            have gz := hTW.size.free
            have HTW : Hid (Tals W w.heap.size pl (upd (run E Z R i) q ⟨t.ev + 1, t.lo, t.se + 1, t.re, t.mj, t.fi⟩)) := hTW
            have HBW' : Hid (Below w.heap.size w W) := hBW
            clear hTW hBW e0 e1 e2 e3 e4 e5 e6 f0 f1 f2 f3 fz hz hr
            go_region
            go_wp2_with fail
            go_roundw
            case rel =>
              refine ⟨i + 1, by omega, by go_num, ?_, ((HBW'.out.setCell (Nat.le_refl _) _).setCell (Nat.le_refl _) _).drew⟩
              rw [HK.out, mx_eq]
              exact Tals.drew ((HTW.out.field hqp 4 _ ⟨t.ev + 1, t.lo, t.se + 1, t.re, max t.mj (sub64 (Z i) t.fi), t.fi⟩ (by omega) rfl).field hqp 5 _ ⟨t.ev + 1, t.lo, t.se + 1, t.re, max t.mj (sub64 (Z i) t.fi), Z i⟩ (by omega) rfl)
            case measure => simp [intOf]; omega
          · have KV : Hid (kindOf (E i).kind (E i).sl (R i) = 1) := by show _ = _; rw [k0, kindOf, if_pos rfl, if_neg s0, if_neg s1]
            go_wp2_with fail
            have hTW : Tals (((wr.setCell ⟨w.heap.size, q * 6, none⟩ (.int .i64 ((t.ev : Int) + 1))).setCell ⟨w.heap.size, q * 6 + 1, none⟩ (.int .i64 ((t.lo : Int) + 1))).alloc (Obj.cells #[Value.int .i64 (q : Int), Value.int .u8 0, Value.slice (E i).sa (E i).sl (E i).sc, Value.slice ka kl kc, Value.int .u64 (E i).lam, Value.string (E i).text, Value.int .i64 (E i).line] 52)) w.heap.size pl (upd (run E Z R i) q ⟨t.ev + 1, t.lo + 1, t.se, t.re, t.mj, t.fi⟩) := Tals.alloc ((HF.out.field hqp 0 (.int .i64 ((t.ev : Int) + 1)) ⟨t.ev + 1, t.lo, t.se, t.re, t.mj, t.fi⟩ (by omega) rfl).field hqp 1 (.int .i64 ((t.lo : Int) + 1)) ⟨t.ev + 1, t.lo + 1, t.se, t.re, t.mj, t.fi⟩ (by omega) rfl) _
            have hzW : (((wr.setCell ⟨w.heap.size, q * 6, none⟩ (.int .i64 ((t.ev : Int) + 1))).setCell ⟨w.heap.size, q * 6 + 1, none⟩ (.int .i64 ((t.lo : Int) + 1))).alloc (Obj.cells #[Value.int .i64 (q : Int), Value.int .u8 0, Value.slice (E i).sa (E i).sl (E i).sc, Value.slice ka kl kc, Value.int .u64 (E i).lam, Value.string (E i).text, Value.int .i64 (E i).line] 52)).cell? ⟨lb, lo + i, none⟩ = some (.int .u64 (Z i)) := new_cell (far_cell (far_cell hz n1 _ _) n1 _ _) _
            have hBW : Below w.heap.size w (((wr.setCell ⟨w.heap.size, q * 6, none⟩ (.int .i64 ((t.ev : Int) + 1))).setCell ⟨w.heap.size, q * 6 + 1, none⟩ (.int .i64 ((t.lo : Int) + 1))).alloc (Obj.cells #[Value.int .i64 (q : Int), Value.int .u8 0, Value.slice (E i).sa (E i).sl (E i).sc, Value.slice ka kl kc, Value.int .u64 (E i).lam, Value.string (E i).text, Value.int .i64 (E i).line] 52)) := Below.alloc ((HBW.out.setCell (Nat.le_refl _) _).setCell (Nat.le_refl _) _) (by simp; omega) _
            have HK : Hid (run E Z R (i + 1) = upd (run E Z R i) q ⟨t.ev + 1, t.lo + 1, t.se, t.re, max t.mj (sub64 (Z i) t.fi), Z i⟩) := run_step HQ.out HT.out (KV.out)
            generalize (((wr.setCell ⟨w.heap.size, q * 6, none⟩ (.int .i64 ((t.ev : Int) + 1))).setCell ⟨w.heap.size, q * 6 + 1, none⟩ (.int .i64 ((t.lo : Int) + 1))).alloc (Obj.cells #[Value.int .i64 (q : Int), Value.int .u8 0, Value.slice (E i).sa (E i).sl (E i).sc, Value.slice ka kl kc, Value.int .u64 (E i).lam, Value.string (E i).text, Value.int .i64 (E i).line] 52)) = W at *
            have g4 := hTW.get hqp 4 rfl
            have g5 := hTW.get hqp 5 rfl
            have gz := hTW.size.free
            have HTW : Hid (Tals W w.heap.size pl (upd (run E Z R i) q ⟨t.ev + 1, t.lo + 1, t.se, t.re, t.mj, t.fi⟩)) := hTW
            have HBW' : Hid (Below w.heap.size w W) := hBW
            clear hTW hBW e0 e1 e2 e3 e4 e5 e6 f0 f1 f2 f3 fz hz hr
            go_region
            go_wp2_with fail
            go_roundw
            case rel =>
              refine ⟨i + 1, by omega, by go_num, ?_, ((HBW'.out.setCell (Nat.le_refl _) _).setCell (Nat.le_refl _) _).drew⟩
              rw [HK.out, mx_eq]
              exact Tals.drew ((HTW.out.field hqp 4 _ ⟨t.ev + 1, t.lo + 1, t.se, t.re, max t.mj (sub64 (Z i) t.fi), t.fi⟩ (by omega) rfl).field hqp 5 _ ⟨t.ev + 1, t.lo + 1, t.se, t.re, max t.mj (sub64 (Z i) t.fi), Z i⟩ (by omega) rfl)
            case measure => simp [intOf]; omega
      · have KE : Hid (kindOf (E i).kind (E i).sl (R i) = (E i).kind) := by show _ = _; rw [kindOf, if_neg k0]
        by_cases k1 : (E i).kind = 1
        · have KV : Hid (kindOf (E i).kind (E i).sl (R i) = 1) := by show _ = _; rw [KE.out, k1]
          go_wp2_with fail
          have hTW : Tals (((wr.setCell ⟨w.heap.size, q * 6, none⟩ (.int .i64 ((t.ev : Int) + 1))).setCell ⟨w.heap.size, q * 6 + 1, none⟩ (.int .i64 ((t.lo : Int) + 1))).alloc (Obj.cells #[Value.int .i64 (q : Int), Value.int .u8 1, Value.slice (E i).sa (E i).sl (E i).sc, Value.slice ka kl kc, Value.int .u64 (E i).lam, Value.string (E i).text, Value.int .i64 (E i).line] 52)) w.heap.size pl (upd (run E Z R i) q ⟨t.ev + 1, t.lo + 1, t.se, t.re, t.mj, t.fi⟩) := Tals.alloc ((HF.out.field hqp 0 (.int .i64 ((t.ev : Int) + 1)) ⟨t.ev + 1, t.lo, t.se, t.re, t.mj, t.fi⟩ (by omega) rfl).field hqp 1 (.int .i64 ((t.lo : Int) + 1)) ⟨t.ev + 1, t.lo + 1, t.se, t.re, t.mj, t.fi⟩ (by omega) rfl) _
          have hzW : (((wr.setCell ⟨w.heap.size, q * 6, none⟩ (.int .i64 ((t.ev : Int) + 1))).setCell ⟨w.heap.size, q * 6 + 1, none⟩ (.int .i64 ((t.lo : Int) + 1))).alloc (Obj.cells #[Value.int .i64 (q : Int), Value.int .u8 1, Value.slice (E i).sa (E i).sl (E i).sc, Value.slice ka kl kc, Value.int .u64 (E i).lam, Value.string (E i).text, Value.int .i64 (E i).line] 52)).cell? ⟨lb, lo + i, none⟩ = some (.int .u64 (Z i)) := new_cell (far_cell (far_cell hz n1 _ _) n1 _ _) _
          have hBW : Below w.heap.size w (((wr.setCell ⟨w.heap.size, q * 6, none⟩ (.int .i64 ((t.ev : Int) + 1))).setCell ⟨w.heap.size, q * 6 + 1, none⟩ (.int .i64 ((t.lo : Int) + 1))).alloc (Obj.cells #[Value.int .i64 (q : Int), Value.int .u8 1, Value.slice (E i).sa (E i).sl (E i).sc, Value.slice ka kl kc, Value.int .u64 (E i).lam, Value.string (E i).text, Value.int .i64 (E i).line] 52)) := Below.alloc ((HBW.out.setCell (Nat.le_refl _) _).setCell (Nat.le_refl _) _) (by simp; omega) _
          have HK : Hid (run E Z R (i + 1) = upd (run E Z R i) q ⟨t.ev + 1, t.lo + 1, t.se, t.re, max t.mj (sub64 (Z i) t.fi), Z i⟩) := run_step HQ.out HT.out (KV.out)
          generalize (((wr.setCell ⟨w.heap.size, q * 6, none⟩ (.int .i64 ((t.ev : Int) + 1))).setCell ⟨w.heap.size, q * 6 + 1, none⟩ (.int .i64 ((t.lo : Int) + 1))).alloc (Obj.cells #[Value.int .i64 (q : Int), Value.int .u8 1, Value.slice (E i).sa (E i).sl (E i).sc, Value.slice ka kl kc, Value.int .u64 (E i).lam, Value.string (E i).text, Value.int .i64 (E i).line] 52)) = W at *
          have g4 := hTW.get hqp 4 rfl
          have g5 := hTW.get hqp 5 rfl
          have gz := hTW.size.free
          have HTW : Hid (Tals W w.heap.size pl (upd (run E Z R i) q ⟨t.ev + 1, t.lo + 1, t.se, t.re, t.mj, t.fi⟩)) := hTW
          have HBW' : Hid (Below w.heap.size w W) := hBW
          clear hTW hBW e0 e1 e2 e3 e4 e5 e6 f0 f1 f2 f3 fz hz hr
          go_region
          go_wp2_with fail
          go_roundw
          case rel =>
            refine ⟨i + 1, by omega, by go_num, ?_, ((HBW'.out.setCell (Nat.le_refl _) _).setCell (Nat.le_refl _) _).drew⟩
            rw [HK.out, mx_eq]
            exact Tals.drew ((HTW.out.field hqp 4 _ ⟨t.ev + 1, t.lo + 1, t.se, t.re, max t.mj (sub64 (Z i) t.fi), t.fi⟩ (by omega) rfl).field hqp 5 _ ⟨t.ev + 1, t.lo + 1, t.se, t.re, max t.mj (sub64 (Z i) t.fi), Z i⟩ (by omega) rfl)
          case measure => simp [intOf]; omega
        · by_cases k2 : (E i).kind = 2
          · have KV : Hid (kindOf (E i).kind (E i).sl (R i) = 2) := by show _ = _; rw [KE.out, k2]
            go_wp2_with fail
            have hTW : Tals (((wr.setCell ⟨w.heap.size, q * 6, none⟩ (.int .i64 ((t.ev : Int) + 1))).setCell ⟨w.heap.size, q * 6 + 2, none⟩ (.int .i64 ((t.se : Int) + 1))).alloc (Obj.cells #[Value.int .i64 (q : Int), Value.int .u8 2, Value.slice (E i).sa (E i).sl (E i).sc, Value.slice ka kl kc, Value.int .u64 (E i).lam, Value.string (E i).text, Value.int .i64 (E i).line] 52)) w.heap.size pl (upd (run E Z R i) q ⟨t.ev + 1, t.lo, t.se + 1, t.re, t.mj, t.fi⟩) := Tals.alloc ((HF.out.field hqp 0 (.int .i64 ((t.ev : Int) + 1)) ⟨t.ev + 1, t.lo, t.se, t.re, t.mj, t.fi⟩ (by omega) rfl).field hqp 2 (.int .i64 ((t.se : Int) + 1)) ⟨t.ev + 1, t.lo, t.se + 1, t.re, t.mj, t.fi⟩ (by omega) rfl) _
            have hzW : (((wr.setCell ⟨w.heap.size, q * 6, none⟩ (.int .i64 ((t.ev : Int) + 1))).setCell ⟨w.heap.size, q * 6 + 2, none⟩ (.int .i64 ((t.se : Int) + 1))).alloc (Obj.cells #[Value.int .i64 (q : Int), Value.int .u8 2, Value.slice (E i).sa (E i).sl (E i).sc, Value.slice ka kl kc, Value.int .u64 (E i).lam, Value.string (E i).text, Value.int .i64 (E i).line] 52)).cell? ⟨lb, lo + i, none⟩ = some (.int .u64 (Z i)) := new_cell (far_cell (far_cell hz n1 _ _) n1 _ _) _
            have hBW : Below w.heap.size w (((wr.setCell ⟨w.heap.size, q * 6, none⟩ (.int .i64 ((t.ev : Int) + 1))).setCell ⟨w.heap.size, q * 6 + 2, none⟩ (.int .i64 ((t.se : Int) + 1))).alloc (Obj.cells #[Value.int .i64 (q : Int), Value.int .u8 2, Value.slice (E i).sa (E i).sl (E i).sc, Value.slice ka kl kc, Value.int .u64 (E i).lam, Value.string (E i).text, Value.int .i64 (E i).line] 52)) := Below.alloc ((HBW.out.setCell (Nat.le_refl _) _).setCell (Nat.le_refl _) _) (by simp; omega) _
            have HK : Hid (run E Z R (i + 1) = upd (run E Z R i) q ⟨t.ev + 1, t.lo, t.se + 1, t.re, max t.mj (sub64 (Z i) t.fi), Z i⟩) := run_step HQ.out HT.out (KV.out)
            generalize (((wr.setCell ⟨w.heap.size, q * 6, none⟩ (.int .i64 ((t.ev : Int) + 1))).setCell ⟨w.heap.size, q * 6 + 2, none⟩ (.int .i64 ((t.se : Int) + 1))).alloc (Obj.cells #[Value.int .i64 (q : Int), Value.int .u8 2, Value.slice (E i).sa (E i).sl (E i).sc, Value.slice ka kl kc, Value.int .u64 (E i).lam, Value.string (E i).text, Value.int .i64 (E i).line] 52)) = W at *
            have g4 := hTW.get hqp 4 rfl
            have g5 := hTW.get hqp 5 rfl
            have gz := hTW.size.free
            have HTW : Hid (Tals W w.heap.size pl (upd (run E Z R i) q ⟨t.ev + 1, t.lo, t.se + 1, t.re, t.mj, t.fi⟩)) := hTW
            have HBW' : Hid (Below w.heap.size w W) := hBW
            clear hTW hBW e0 e1 e2 e3 e4 e5 e6 f0 f1 f2 f3 fz hz hr
            go_region
            go_wp2_with fail
            go_roundw
            case rel =>
              refine ⟨i + 1, by omega, by go_num, ?_, ((HBW'.out.setCell (Nat.le_refl _) _).setCell (Nat.le_refl _) _).drew⟩
              rw [HK.out, mx_eq]
              exact Tals.drew ((HTW.out.field hqp 4 _ ⟨t.ev + 1, t.lo, t.se + 1, t.re, max t.mj (sub64 (Z i) t.fi), t.fi⟩ (by omega) rfl).field hqp 5 _ ⟨t.ev + 1, t.lo, t.se + 1, t.re, max t.mj (sub64 (Z i) t.fi), Z i⟩ (by omega) rfl)
            case measure => simp [intOf]; omega
          · by_cases k3 : (E i).kind = 3
            · have KV : Hid (kindOf (E i).kind (E i).sl (R i) = 3) := by show _ = _; rw [KE.out, k3]
              go_wp2_with fail
              have hTW : Tals (((wr.setCell ⟨w.heap.size, q * 6, none⟩ (.int .i64 ((t.ev : Int) + 1))).setCell ⟨w.heap.size, q * 6 + 3, none⟩ (.int .i64 ((t.re : Int) + 1))).alloc (Obj.cells #[Value.int .i64 (q : Int), Value.int .u8 3, Value.slice (E i).sa (E i).sl (E i).sc, Value.slice ka kl kc, Value.int .u64 (E i).lam, Value.string (E i).text, Value.int .i64 (E i).line] 52)) w.heap.size pl (upd (run E Z R i) q ⟨t.ev + 1, t.lo, t.se, t.re + 1, t.mj, t.fi⟩) := Tals.alloc ((HF.out.field hqp 0 (.int .i64 ((t.ev : Int) + 1)) ⟨t.ev + 1, t.lo, t.se, t.re, t.mj, t.fi⟩ (by omega) rfl).field hqp 3 (.int .i64 ((t.re : Int) + 1)) ⟨t.ev + 1, t.lo, t.se, t.re + 1, t.mj, t.fi⟩ (by omega) rfl) _
              have hzW : (((wr.setCell ⟨w.heap.size, q * 6, none⟩ (.int .i64 ((t.ev : Int) + 1))).setCell ⟨w.heap.size, q * 6 + 3, none⟩ (.int .i64 ((t.re : Int) + 1))).alloc (Obj.cells #[Value.int .i64 (q : Int), Value.int .u8 3, Value.slice (E i).sa (E i).sl (E i).sc, Value.slice ka kl kc, Value.int .u64 (E i).lam, Value.string (E i).text, Value.int .i64 (E i).line] 52)).cell? ⟨lb, lo + i, none⟩ = some (.int .u64 (Z i)) := new_cell (far_cell (far_cell hz n1 _ _) n1 _ _) _
              have hBW : Below w.heap.size w (((wr.setCell ⟨w.heap.size, q * 6, none⟩ (.int .i64 ((t.ev : Int) + 1))).setCell ⟨w.heap.size, q * 6 + 3, none⟩ (.int .i64 ((t.re : Int) + 1))).alloc (Obj.cells #[Value.int .i64 (q : Int), Value.int .u8 3, Value.slice (E i).sa (E i).sl (E i).sc, Value.slice ka kl kc, Value.int .u64 (E i).lam, Value.string (E i).text, Value.int .i64 (E i).line] 52)) := Below.alloc ((HBW.out.setCell (Nat.le_refl _) _).setCell (Nat.le_refl _) _) (by simp; omega) _
              have HK : Hid (run E Z R (i + 1) = upd (run E Z R i) q ⟨t.ev + 1, t.lo, t.se, t.re + 1, max t.mj (sub64 (Z i) t.fi), Z i⟩) := run_step HQ.out HT.out (KV.out)
              generalize (((wr.setCell ⟨w.heap.size, q * 6, none⟩ (.int .i64 ((t.ev : Int) + 1))).setCell ⟨w.heap.size, q * 6 + 3, none⟩ (.int .i64 ((t.re : Int) + 1))).alloc (Obj.cells #[Value.int .i64 (q : Int), Value.int .u8 3, Value.slice (E i).sa (E i).sl (E i).sc, Value.slice ka kl kc, Value.int .u64 (E i).lam, Value.string (E i).text, Value.int .i64 (E i).line] 52)) = W at *
              have g4 := hTW.get hqp 4 rfl
              have g5 := hTW.get hqp 5 rfl
              have gz := hTW.size.free
              have HTW : Hid (Tals W w.heap.size pl (upd (run E Z R i) q ⟨t.ev + 1, t.lo, t.se, t.re + 1, t.mj, t.fi⟩)) := hTW
              have HBW' : Hid (Below w.heap.size w W) := hBW
              clear hTW hBW e0 e1 e2 e3 e4 e5 e6 f0 f1 f2 f3 fz hz hr
              go_region
              go_wp2_with fail
              go_roundw
              case rel =>
                refine ⟨i + 1, by omega, by go_num, ?_, ((HBW'.out.setCell (Nat.le_refl _) _).setCell (Nat.le_refl _) _).drew⟩
                rw [HK.out, mx_eq]
                exact Tals.drew ((HTW.out.field hqp 4 _ ⟨t.ev + 1, t.lo, t.se, t.re + 1, max t.mj (sub64 (Z i) t.fi), t.fi⟩ (by omega) rfl).field hqp 5 _ ⟨t.ev + 1, t.lo, t.se, t.re + 1, max t.mj (sub64 (Z i) t.fi), Z i⟩ (by omega) rfl)
              case measure => simp [intOf]; omega
            · skip
              go_wp2_with fail
              have hTW : Tals ((wr.setCell ⟨w.heap.size, q * 6, none⟩ (.int .i64 ((t.ev : Int) + 1))).alloc (Obj.cells #[Value.int .i64 (q : Int), Value.int .u8 (E i).kind, Value.slice (E i).sa (E i).sl (E i).sc, Value.slice ka kl kc, Value.int .u64 (E i).lam, Value.string (E i).text, Value.int .i64 (E i).line] 52)) w.heap.size pl (upd (run E Z R i) q ⟨t.ev + 1, t.lo, t.se, t.re, t.mj, t.fi⟩) := Tals.alloc (HF.out.field hqp 0 (.int .i64 ((t.ev : Int) + 1)) ⟨t.ev + 1, t.lo, t.se, t.re, t.mj, t.fi⟩ (by omega) rfl) _
              have hzW : ((wr.setCell ⟨w.heap.size, q * 6, none⟩ (.int .i64 ((t.ev : Int) + 1))).alloc (Obj.cells #[Value.int .i64 (q : Int), Value.int .u8 (E i).kind, Value.slice (E i).sa (E i).sl (E i).sc, Value.slice ka kl kc, Value.int .u64 (E i).lam, Value.string (E i).text, Value.int .i64 (E i).line] 52)).cell? ⟨lb, lo + i, none⟩ = some (.int .u64 (Z i)) := new_cell (far_cell hz n1 _ _) _
              have hBW : Below w.heap.size w ((wr.setCell ⟨w.heap.size, q * 6, none⟩ (.int .i64 ((t.ev : Int) + 1))).alloc (Obj.cells #[Value.int .i64 (q : Int), Value.int .u8 (E i).kind, Value.slice (E i).sa (E i).sl (E i).sc, Value.slice ka kl kc, Value.int .u64 (E i).lam, Value.string (E i).text, Value.int .i64 (E i).line] 52)) := Below.alloc (HBW.out.setCell (Nat.le_refl _) _) (by simp; omega) _
              have HK : Hid (run E Z R (i + 1) = upd (run E Z R i) q ⟨t.ev + 1, t.lo, t.se, t.re, max t.mj (sub64 (Z i) t.fi), Z i⟩) := run_step HQ.out HT.out (KE.out) (by simp [Tal.step, *])
              generalize ((wr.setCell ⟨w.heap.size, q * 6, none⟩ (.int .i64 ((t.ev : Int) + 1))).alloc (Obj.cells #[Value.int .i64 (q : Int), Value.int .u8 (E i).kind, Value.slice (E i).sa (E i).sl (E i).sc, Value.slice ka kl kc, Value.int .u64 (E i).lam, Value.string (E i).text, Value.int .i64 (E i).line] 52)) = W at *
              have g4 := hTW.get hqp 4 rfl
              have g5 := hTW.get hqp 5 rfl
              have gz := hTW.size.free
              have HTW : Hid (Tals W w.heap.size pl (upd (run E Z R i) q ⟨t.ev + 1, t.lo, t.se, t.re, t.mj, t.fi⟩)) := hTW
              have HBW' : Hid (Below w.heap.size w W) := hBW
              clear hTW hBW e0 e1 e2 e3 e4 e5 e6 f0 f1 f2 f3 fz hz hr
              go_region
              go_wp2_with fail
              go_roundw
              case rel =>
                refine ⟨i + 1, by omega, by go_num, ?_, ((HBW'.out.setCell (Nat.le_refl _) _).setCell (Nat.le_refl _) _).drew⟩
                rw [HK.out, mx_eq]
                exact Tals.drew ((HTW.out.field hqp 4 _ ⟨t.ev + 1, t.lo, t.se, t.re, max t.mj (sub64 (Z i) t.fi), t.fi⟩ (by omega) rfl).field hqp 5 _ ⟨t.ev + 1, t.lo, t.se, t.re, max t.mj (sub64 (Z i) t.fi), Z i⟩ (by omega) rfl)
              case measure => simp [intOf]; omega
    · obtain rfl : i = len := by omega
      go_wp2_with fail
      go_ret
      exact ⟨w.heap.size, rfl, Nat.le_refl _, by obtain ⟨cur, t, hc, _⟩ := hF.size; exact lt_of_block hc, hF, hbw⟩

theorem zzbyProc_any (T : Nat) (pa : Option Addr) (pl pc : Nat) (vo : Option Addr) (len vc B : Nat) (E : Nat → EvD) (K : Nat → Value) (la : Option Addr) (lc lb lo : Nat) (Z : Nat → Int) (ra : Option Addr) (rc rb ro : Nat) (R : Nat → Int) (w : World)
    (hT : TrAt w T pa pl pc vo len vc B E K) (hZ : Ints .u64 w la len lc lb lo Z) (hR : Ints .i64 w ra len rc rb ro R) (hpl : pl ≤ 65536) (hlen : len ≤ 65536) (hp : ∀ i, i < len → 0 ≤ (E i).proc ∧ (E i).proc < pl) (hk : ∀ i, i < len → (Lit.int .u8 (E i).kind).wf = true) :
    Calls Try.prog 9 #[.pointer (some ⟨T, 0, none⟩), .slice la len lc, .slice ra len rc] w (SaysTals w pl (run E Z R len)) := by
  go_enter Try.func9, Try.ntmps9
  go_wp2_with fail
  refine (byProc_any T pa pl pc vo len vc B E K la lc lb lo Z ra rc rb ro R w hT hZ hR hpl hlen hp hk).mono ?_
  rintro e w1 ⟨G, rfl, h1, h2, h3, h4⟩
  go_wp2_with fail
  go_ret
  exact ⟨G, rfl, h1, h2, h3, h4⟩
end Go.Proofs.Qxb6606440a
