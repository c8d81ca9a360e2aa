/-
  FnByProcessMaxJumpBoundsFinal (function 5): the walk.
-/
import Derived.Test.Qxb6606440aGuard
import Derived.Test.Qxb6606440aBy
import Derived.Test.Qxb6606440aCopy
import Derived.Test.Qxb6606440aJump
import Derived.Deep.DeepCutAuto
namespace Go.Proofs.Qxb6606440a
open Go.RowKit

def SaysTrue (w : World) (e : Ending) (w' : World) : Prop := e = .returned (.bool true) ∧ Below w.heap.size w w'

theorem u64_in (n : Int) (h : 0 ≤ n ∧ n ≤ 18446744073709551615) : IntKind.u64.wrap n = n := by
  have e : IntKind.u64.wrap n = n % 18446744073709551616 := by unfold IntKind.wrap; rfl
  rw [e]; omega

set_option maxHeartbeats 8000000 in
set_option maxRecDepth 20000 in
theorem law5 (pa : Option Addr) (pl pc pb po : Nat) (S : Nat → ByteArray) (ao : Option Addr) (len cap b off : Nat) (E : Nat → EvD) (la : Option Addr) (ll lc lb lo : Nat) (Z : Nat → Int) (ra : Option Addr) (rl rc rb ro : Nat) (R : Nat → Int) (w : World)
    (hS : Strs w pa pl pc pb po S) (h : Evs w ao len cap b off E) (hZ : Ints .u64 w la ll lc lb lo Z) (hR : Ints .i64 w ra rl rc rb ro R) :
    Calls Try.prog 5 #[.slice pa pl pc, .slice ao len cap, .slice la ll lc, .slice ra rl rc] w (SaysTrue w) := by
  have b1 : pl ≤ maxLen := Nat.le_trans hS.row.le hS.row.capm
  have b2 : len ≤ maxLen := Nat.le_trans h.row.le h.row.capm
  have b3 : ll ≤ maxLen := Nat.le_trans hZ.row.le hZ.row.capm
  have b4 : rl ≤ maxLen := Nat.le_trans hR.row.le hR.row.capm
  go_enter Try.func5, Try.ntmps5
  go_wp2_with fail
  refine (guard14 pa pl pc pb po S ao len cap b off E la ll lc ra rl rc w hS h b3 b4).mono ?_
  rintro e w1 ⟨r1, rfl, hw1, _⟩
  subst hw1
  cases r1 with
  | false =>
    go_wp2_with fail
    go_ret
    exact ⟨rfl, Below.refl _ _⟩
  | true =>
    unfold maxLen at b1 b2 b3 b4
    by_cases t1 : 65536 < pl
    · go_wp2_with fail
      go_ret
      exact ⟨rfl, Below.refl _ _⟩
    by_cases t2 : 65536 < len
    · go_wp2_with fail
      go_ret
      exact ⟨rfl, Below.refl _ _⟩
    by_cases t3 : 65536 < ll
    · go_wp2_with fail
      go_ret
      exact ⟨rfl, Below.refl _ _⟩
    by_cases t4 : 65536 < rl
    · go_wp2_with fail
      go_ret
      exact ⟨rfl, Below.refl _ _⟩
    go_wp2_with fail
    refine (traceBytes_any pa pl pc pb po S ao len cap b off E la ra ll lc rl rc w1 hS h (by omega) (by omega) (by omega) (by omega)).mono ?_
    rintro e w2 ⟨tb, rfl, hb2, hcl⟩
    by_cases t5 : 1048576 < tb
    · go_wp2_with fail
      go_ret
      exact ⟨rfl, hb2⟩
    replace hcl := hcl (by omega)
    by_cases t6 : ll = len
    · subst t6
      by_cases t7 : rl = ll
      · subst t7
        have HCL : Hid (∀ i, i < rl → (E i).cl ≤ 1048576) := hcl
        clear hcl
        go_wp2_with fail
        refine (inRange_any ao rl cap b off E pl w2 (h.below hb2)).mono ?_
        rintro e w3 ⟨r3, rfl, hw3, hpr⟩
        subst hw3
        cases r3 with
        | false =>
          go_wp2_with fail
          go_ret
          exact ⟨rfl, hb2⟩
        | true =>
          have HPR : Hid (∀ i, i < rl → 0 ≤ (E i).proc ∧ (E i).proc < pl) := hpr rfl
          clear hpr
          have h2 := h.below hb2
          have hZ2 := hZ.below hb2
          have hR2 := hR.below hb2
          have hbs := hb2.size
          have HB2 : Hid (Below w1.heap.size w1 w3) := hb2
          clear h hS hZ hR hb2
          obtain ⟨i0, hi, hz0, hz1, hz2⟩ := info_parts info35
          obtain ⟨j0, hj, jz0, jz1, jz2⟩ := info_parts info3
          go_upto_if 66 with fail
          go_cut [2, 9] (fun s2 _ wc => ∃ la' lc' lb' lo', s2 = .slice la' rl lc' ∧ Ints .u64 wc la' rl lc' lb' lo' Z ∧ Below w3.heap.size w3 wc)
          case first =>
            cases la with
            | none =>
              go_wp2_with fail
              go_meet
              case rel => exact ⟨none, lc, lb, lo, rfl, hZ2, Below.refl _ _⟩
            | some a =>
              go_wp2_with (at_make; refine wpList_make_full _ rfl _ _ 24 rfl w3.heap.size 35 i0 (.int .u64 0) 1 Try.underlying24 hi hz0 hz1 .i64 .i64 (rl : Int) (rl : Int) rl rfl rfl rfl rfl (by rw [hz2]; omega) (by unfold maxLen; omega) (Nat.le_refl _) ?_)
              intro w4 hown hgrow
              have hb4 : Below w3.heap.size w3 w4 := (Below.refl _ _).grown hgrow (Nat.le_refl _) (fun _ h => by cases h)
              have hsz : Size w4 w3.heap.size rl := by have := made_size hown; simpa using this
              have hz4 := hZ2.below hb4
              clear hown hgrow
              obtain ⟨w5, hrun, hz5, hb5⟩ := copy_run 24 3 35 Try.underlying24 size35 .u64 (some a) rl lc lb lo Z w4 hz4 w3.heap.size hsz
              have hb6 := hb4.trans hb5
              clear hb4 hb5 hsz hz4
              go_wp2_with fail
              go_meet
              case rel => exact ⟨_, _, _, _, rfl, hz5, hb6⟩
          case rest =>
            obtain ⟨la', lc', lb', lo', rfl, hZ3, hb3⟩ := hcut
            have h3 := h2.below hb3
            have hR3 := hR2.below hb3
            have HB3 : Hid (Below w1.heap.size w1 wc) := HB2.out.trans (hb3.mono hbs)
            have hbs3 : w1.heap.size ≤ wc.heap.size := by have := hb3.size; omega
            clear h2 hZ2 hR2 hb3 HB2
            go_upto_if 75 with fail
            go_cut [3, 10] (fun s3 _ wd => ∃ ra' rc' rb' ro', s3 = .slice ra' rl rc' ∧ Ints .i64 wd ra' rl rc' rb' ro' R ∧ Below wc.heap.size wc wd)
            case first =>
              cases ra with
              | none =>
                go_wp2_with fail
                go_meet
                case rel => exact ⟨none, rc, rb, ro, rfl, hR3, Below.refl _ _⟩
              | some a =>
                go_wp2_with (at_make; refine wpList_make_full _ rfl _ _ 25 rfl wc.heap.size 3 j0 (.int .i64 0) 1 Try.underlying25 hj jz0 jz1 .i64 .i64 (rl : Int) (rl : Int) rl rfl rfl rfl rfl (by rw [jz2]; omega) (by unfold maxLen; omega) (Nat.le_refl _) ?_)
                intro w4 hown hgrow
                have hb4 : Below wc.heap.size wc w4 := (Below.refl _ _).grown hgrow (Nat.le_refl _) (fun _ h => by cases h)
                have hsz : Size w4 wc.heap.size rl := by have := made_size hown; simpa using this
                have hz4 := hR3.below hb4
                clear hown hgrow
                obtain ⟨w5, hrun, hz5, hb5⟩ := copy_run 25 3 3 Try.underlying25 size3 .i64 (some a) rl rc rb ro R w4 hz4 wc.heap.size hsz
                have hb6 := hb4.trans hb5
                clear hb4 hb5 hsz hz4
                go_wp2_with fail
                go_meet
                case rel => exact ⟨_, _, _, _, rfl, hz5, hb6⟩
            case rest =>
              obtain ⟨ra', rc', rb', ro', rfl, hR4, hb4⟩ := hcut
              have h4 := h3.below hb4
              have hZ4 := hZ3.below hb4
              have HB4 : Hid (Below w1.heap.size w1 wc) := HB3.out.trans (hb4.mono hbs3)
              have hbs4 : w1.heap.size ≤ wc.heap.size := by have := hb4.size; omega
              clear h3 hZ3 hR3 hb4 HB3
              go_wp2_with (at_make; refine wpList_make_full _ rfl _ _ 24 rfl wc.heap.size 35 i0 (.int .u64 0) 1 Try.underlying24 hi hz0 hz1 .i64 .i64 (pl : Int) (pl : Int) pl rfl rfl rfl rfl (by rw [hz2]; omega) (by unfold maxLen; omega) (Nat.le_refl _) ?_)
              intro w6 hown hgrow
              have hb6 : Below wc.heap.size wc w6 := (Below.refl _ _).grown hgrow (Nat.le_refl _) (fun _ h => by cases h)
              have hN0 : Nums w6 wc.heap.size pl (fun p => (run E Z R 0 p).fi) := by
                have := made_nums (w1 := w6) (base := wc.heap.size) (n := pl) (g := wc.heap.size) (by simpa [toList_madeCells_one] using hown)
                exact this
              clear hown hgrow
              go_wp2_with fail
              go_loopw [8, 12] (fun r t wr => r = .bool false ∧ ∃ i : Nat, i ≤ rl ∧ t = .int .i64 (i : Int) ∧ Nums wr wc.heap.size pl (fun p => (run E Z R i p).fi) ∧ Rises E Z R i ∧ Below wc.heap.size wc wr) (fun _ t _ => rl - (intOf t).toNat)
              case atStart => exact ⟨rfl, 0, Nat.zero_le _, rfl, hN0, fun j hj => by omega, hb6⟩
              case round =>
                obtain ⟨rfl, i, hi, rfl, hN, hris, hbr⟩ := hrel
                clear hN0 hb6
                by_cases hlt : i < rl
                · have ha1 := h4.row.ad (by omega)
                  have ha2 := hZ4.row.ad (by omega)
                  subst ha1 ha2
                  have c0 := (h4.below hbr).row.at0 i hlt rfl
                  have cz := (hZ4.below hbr).at i hlt
                  have hzb := bounds_u64 (hZ4.ok i hlt)
                  have hbl := h4.row.lt (by omega)
                  have hlbl := hZ4.row.lt (by omega)
                  obtain ⟨hp0, hp1⟩ := HPR.out i hlt
                  obtain ⟨q, hq⟩ : ∃ q : Nat, (E i).proc = (q : Int) := ⟨(E i).proc.toNat, by omega⟩
                  rw [hq] at c0 hp1
                  have hqp : q < pl := by omega
                  have cn := hN.cell q hqp
                  have cf := hN.size.free q
                  have HQ : Hid ((E i).proc = (q : Int)) := hq
                  have HN : Hid (Nums wr wc.heap.size pl (fun p => (run E Z R i p).fi)) := hN
                  have HRI : Hid (Rises E Z R i) := hris
                  have HBR : Hid (Below wc.heap.size wc wr) := hbr
                  obtain ⟨x, hx⟩ : ∃ x, x = (run E Z R i q).fi := ⟨_, rfl⟩
                  have cn' : wr.cell? ⟨wc.heap.size, q, none⟩ = some (.int .u64 x) := by rw [hx]; exact cn
                  have HX : Hid (x = (run E Z R i q).fi) := hx
                  have n1 : lb' ≠ wc.heap.size := by omega
                  have n2 : wc.heap.size ≠ lb' := by omega
                  clear hN hris hbr hq cn hx h4 hZ4 hR4
                  by_cases hc : Z i < x
                  · go_wp2_with fail
                    go_region
                    go_wp2_with fail
                    go_ret
                    exact ⟨rfl, (HB4.out.trans (HBR.out.mono hbs4)).drew⟩
                  · go_wp2_with fail
                    go_region
                    go_wp2_with fail
                    go_roundw
                    case rel =>
                      refine ⟨rfl, i + 1, by omega, by go_num, Nums.drew (HN.out.put q (Z i) (fun p hp => ?_)), fun j hj => ?_, (HBR.out.setCell (Nat.le_refl _) _).drew⟩
                      · have e1 : (E i).proc.toNat = q := by have := HQ.out; omega
                        show (run E Z R (i + 1) p).fi = _
                        rw [run, e1]
                        by_cases e : p = q
                        · rw [if_pos e, if_pos e]; rfl
                        · rw [if_neg e, if_neg e]
                      · by_cases e : j = i
                        · subst e
                          have e1 : (E j).proc.toNat = q := by have := HQ.out; omega
                          rw [e1, ← HX.out]; omega
                        · exact HRI.out j (by omega)
                    case measure => simp [intOf]; omega
                · obtain rfl : i = rl := by omega
                  have h5 := h4.below hbr
                  have hZ5 := hZ4.below hbr
                  have hR5 := hR4.below hbr
                  have HB5 : Hid (Below w1.heap.size w1 wr) := HB4.out.trans (hbr.mono hbs4)
                  have hbs5 : w1.heap.size ≤ wr.heap.size := by have := hbr.size; omega
                  have HRI : Hid (Rises E Z R i) := hris
                  clear h4 hZ4 hR4 hN hbr hris HB4
                  go_wp2_with fail
                  refine (toTrace_any pa pl pc ao i cap b off E wr h5 (by omega) HCL.out).mono ?_
                  rintro e w7 ⟨T, vo, vc, B, K, rfl, hT, hb7⟩
                  have h6 := h5.below hb7
                  have hZ6 := hZ5.below hb7
                  have hR6 := hR5.below hb7
                  have HB6 : Hid (Below w1.heap.size w1 w7) := HB5.out.trans (hb7.mono hbs5)
                  have hbs6 : w1.heap.size ≤ w7.heap.size := by have := hb7.size; omega
                  clear h5 hZ5 hR5 hb7 HB5
                  go_wp2_with fail
                  refine (zzbyProc_any T pa pl pc vo i vc B E K la' lc' lb' lo' Z ra' rc' rb' ro' R w7 hT hZ6 hR6 (by omega) (by omega) HPR.out (fun j hj => (h6.ok j hj).kind)).mono ?_
                  rintro e w8 ⟨G, rfl, hG1, hG2, hTl, hb8⟩
                  have h7 := h6.below hb8
                  have hZ7 := hZ6.below hb8
                  have HB7 : Hid (Below w1.heap.size w1 w8) := HB6.out.trans (hb8.mono hbs6)
                  have hbs7 : w1.heap.size ≤ w8.heap.size := by have := hb8.size; omega
                  have hbe : 0 < i → b < G := fun h0 => by have := h6.row.lt h0; omega
                  have hle : 0 < i → lb' < G := fun h0 => by have := hZ6.row.lt h0; omega
                  have HJ : Hid (∀ p, JumpOk (run E Z R i p)) := fun p => jump_run HRI.out (fun j hj => bounds_u64 (hZ6.ok j hj)) p i (Nat.le_refl _)
                  clear h6 hZ6 hR6 hT hb8 HB6 hG1
                  go_wp2_with fail
                  go_loopw [8, 15] (fun r t ws => r = .bool false ∧ ∃ m : Nat, m ≤ i ∧ t = .int .i64 (m : Int) ∧ Below w8.heap.size w8 ws) (fun _ t _ => i - (intOf t).toNat)
                  case atStart => exact ⟨rfl, 0, Nat.zero_le _, rfl, Below.refl _ _⟩
                  case round =>
                    obtain ⟨rfl, m, hm, rfl, hbr⟩ := hrel
                    by_cases hlt2 : m < i
                    · have ha1 := h7.row.ad (by omega)
                      have ha2 := hZ7.row.ad (by omega)
                      subst ha1 ha2
                      have c0 := (h7.below hbr).row.at0 m hlt2 rfl
                      have cz := (hZ7.below hbr).at m hlt2
                      have hzb := bounds_u64 (hZ7.ok m hlt2)
                      obtain ⟨hp0, hp1⟩ := HPR.out m hlt2
                      obtain ⟨q, hq⟩ : ∃ q : Nat, (E m).proc = (q : Int) := ⟨(E m).proc.toNat, by omega⟩
                      rw [hq] at c0 hp1
                      have hqp : q < pl := by omega
                      have cf := (hTl.below hbr hG2).cell q hqp 5 _ rfl
                      have hfin : Z m ≤ (run E Z R i q).fi := by
                        have := rises_final HRI.out m (by omega) i hlt2 (Nat.le_refl _)
                        rwa [show (E m).proc.toNat = q from by omega] at this
                      generalize (run E Z R i q).fi = x at *
                      have HBR : Hid (Below w8.heap.size w8 wr) := hbr
                      clear h7 hZ7 hTl hbr hq
                      go_wp2_with fail
                      go_region
                      go_wp2_with fail
                      go_roundw
                      case rel => exact ⟨rfl, m + 1, by omega, by go_num, HBR.out.drew⟩
                      case measure => simp [intOf]; omega
                    · have HB8 : Hid (Below w1.heap.size w1 wr) := HB7.out.trans (hbr.mono hbs7)
                      have hT8 := hTl.below hbr hG2
                      have hG8 : G < wr.heap.size := by have := hbr.size; omega
                      have hbs8 : w1.heap.size ≤ wr.heap.size := by have := hbr.size; omega
                      clear h7 hZ7 hTl hbr HB7 hbe hle
                      go_wp2_with fail
                      go_loopw [8, 16] (fun r t ws => r = .bool false ∧ ∃ p : Nat, p ≤ pl ∧ t = .int .i64 (p : Int) ∧ Below wr.heap.size wr ws) (fun _ t _ => pl - (intOf t).toNat)
                      case atStart => exact ⟨rfl, 0, Nat.zero_le _, rfl, Below.refl _ _⟩
                      case round =>
                        obtain ⟨rfl, p, hp, rfl, hbr⟩ := hrel
                        by_cases hlt3 : p < pl
                        · have hT9 := hT8.below hbr hG8
                          have hG9 : G < wr.heap.size := by have := hbr.size; omega
                          have hj := HJ.out p
                          have hle := (run_le E Z R p i).1
                          have hmean := fun h0 => jump_mean hj h0
                          have f0 : wr.cell? ⟨G, p * 6, none⟩ = some (.int .i64 ((run E Z R i p).ev : Int)) := hT9.cell p hlt3 0 _ rfl
                          have f1 := hT9.cell p hlt3 1 _ rfl
                          have f2 := hT9.cell p hlt3 2 _ rfl
                          have f3 := hT9.cell p hlt3 3 _ rfl
                          have f4 := hT9.cell p hlt3 4 _ rfl
                          have f5 := hT9.cell p hlt3 5 _ rfl
                          have HBR := hbr
                          generalize run E Z R i p = t at *
                          obtain ⟨g1, ⟨g2, g3, g4⟩, g5, _⟩ := hj
                          clear hT8 hT9 hbr
                          have HBX : Hid (Below _ _ wr) := HBR
                          clear HBR
                          by_cases h0 : t.ev = 0
                          · obtain ⟨m1, m2⟩ := g1 h0
                            rw [h0] at f0
                            rw [m1] at f4
                            rw [m2] at f5
                            clear g1 hmean
                            go_wp2_with fail
                            go_roundw
                            case rel => exact ⟨rfl, p + 1, by omega, by go_num, HBX.out.alloc (by have := HBX.out.size; omega) _⟩
                            case measure => simp [intOf]; omega
                          · have hme := hmean (by omega)
                            have h0' : ¬ (t.ev : Int) = 0 := by omega
                            have hd1 : decide (t.fi < t.mj) = false := by simp; omega
                            have hw1 : IntKind.u64.wrap (t.ev : Int) = (t.ev : Int) := u64_in _ (by omega)
                            have hq1 : t.fi.tdiv (t.ev : Int) = t.fi / (t.ev : Int) := Int.tdiv_eq_ediv_of_nonneg (by omega)
                            have hq2 : t.fi / (t.ev : Int) ≤ t.fi := Int.ediv_le_self _ (by omega)
                            have hq3 : 0 ≤ t.fi / (t.ev : Int) := Int.ediv_nonneg (by omega) (by omega)
                            have hw2 : IntKind.u64.wrap (t.fi / (t.ev : Int)) = t.fi / (t.ev : Int) := u64_in _ (by omega)
                            have hd2 : decide (t.mj < t.fi / (t.ev : Int)) = false := by simp; omega
                            clear g1 hmean
                            go_wp2_with fail
                            go_region
                            go_wp2_with fail
                            go_roundw
                            case rel => exact ⟨rfl, p + 1, by omega, by go_num, (HBX.out.alloc (by have := HBX.out.size; omega) _).drew⟩
                            case measure => simp [intOf]; omega
                        · go_wp2_with fail
                          go_ret
                          exact ⟨rfl, HB8.out.trans (hbr.mono hbs8)⟩
      · go_wp2_with fail
        go_ret
        exact ⟨rfl, hb2⟩
    · go_wp2_with fail
      go_ret
      exact ⟨rfl, hb2⟩
end Go.Proofs.Qxb6606440a
