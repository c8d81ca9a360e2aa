/-
  FnByProcessMatchesPerEventModel (function 3): the walk.
-/
import Derived.Test.Qxb6606440aGuard6
import Derived.Test.Qxb6606440aBy
import Derived.Test.Qxb6606440aCopy
import Derived.Test.Qxb6606440aModel
import Derived.Deep.DeepCutAuto
import Derived.Deep.CutBlock
namespace Go.Proofs.Qxb6606440a
open Go.RowKit

def SaysTrue (w : World) (e : Ending) (w' : World) : Prop := e = .returned (.bool true) ∧ Below w.heap.size w w'
theorem u64_in (n : Int) (h : 0 ≤ n ∧ n ≤ 18446744073709551615) : IntKind.u64.wrap n = n := by
  have e : IntKind.u64.wrap n = n % 18446744073709551616 := by unfold IntKind.wrap; rfl
  rw [e]; omega

/-- zzKindOf (function 11) -/
theorem kind_any (k : Int) (sl : Nat) (r : Int) (w : World) : Calls Try.prog 11 #[.int .u8 k, .int .i64 (sl : Int), .int .i64 r] w fun e w' => e = .returned (.int .u8 (kindOf k sl r)) ∧ w' = w := by
  by_cases h0 : k = 0
  · subst h0
    by_cases h1 : 0 < sl
    · rw [show kindOf 0 sl r = 3 from by simp [kindOf, h1]]
      go_enter Try.func11, Try.ntmps11
      go_wp2_with fail
      go_ret
      exact ⟨rfl, rfl⟩
    · by_cases h2 : 0 < r
      · rw [show kindOf 0 sl r = 2 from by simp [kindOf, h1, h2]]
        go_enter Try.func11, Try.ntmps11
        go_wp2_with fail
        go_ret
        exact ⟨rfl, rfl⟩
      · rw [show kindOf 0 sl r = 1 from by simp [kindOf, h1, h2]]
        go_enter Try.func11, Try.ntmps11
        go_wp2_with fail
        go_ret
        exact ⟨rfl, rfl⟩
  · rw [show kindOf k sl r = k from by simp [kindOf, h0]]
    go_enter Try.func11, Try.ntmps11
    go_wp2_with fail
    go_ret
    exact ⟨rfl, rfl⟩

theorem info39 : (Try.prog.info? 39).map (fun i => (i.zero, i.size, i.bytes)) = some (some (.agg #[.int .i64 0, .int .i64 0, .int .i64 0, .int .i64 0, .int .u64 0, .int .u64 0]), 6, 48) := by kernel_rfl
theorem made_tals {w1 : World} {base n g : Nat} {e : TypeId} (hown : w1.ownsRow base e 6 (.slice (some ⟨g, 0, none⟩) n n) n (madeCells (Value.agg #[.int .i64 0, .int .i64 0, .int .i64 0, .int .i64 0, .int .u64 0, .int .u64 0]).cells (n * 6)).toList) (F : Nat → Tal) (hF : ∀ p, F p = Tal.zero) : Tals w1 g n F := by
  rcases hown.2 with ⟨h, _⟩ | ⟨g', cap', cur, h, _, hg, _, _, hcs, htk⟩
  · simp at h
  · simp only [Value.slice.injEq, Option.some.injEq, Addr.mk.injEq, and_true, true_and] at h
    obtain ⟨rfl, rfl⟩ := h
    refine ⟨⟨cur, e, hg, hcs⟩, fun p hp m v hv => ?_⟩
    rw [hF p] at hv
    have hm : m < 6 := (List.getElem?_eq_some_iff.1 hv).1
    rw [List.take_of_length_le (by rw [Array.length_toList]; omega)] at htk
    have : cur[p * 6 + m]? = some v := by
      rw [← Array.getElem?_toList, htk]
      exact made_six n p m v hp hm hv
    simp only [World.cell?, hg]
    exact this

set_option maxHeartbeats 8000000 in
set_option maxRecDepth 20000 in
theorem law3 (pa : Option Addr) (pl pc pb po : Nat) (S : Nat → ByteArray) (ao : Option Addr) (len cap b off : Nat) (E : Nat → EvD) (la : Option Addr) (ll lc lb lo : Nat) (Z : Nat → Int) (ra : Option Addr) (rl rc rb ro : Nat) (R : Nat → Int) (w : World)
    (hS : Strs w pa pl pc pb po S) (h : Evs w ao len cap b off E) (hZ : Ints .u64 w la ll lc lb lo Z) (hR : Ints .i64 w ra rl rc rb ro R) :
    Calls Try.prog 3 #[.slice pa pl pc, .slice ao len cap, .slice la ll lc, .slice ra rl rc] w (SaysTrue w) := by
  have b1 : pl ≤ maxLen := Nat.le_trans hS.row.le hS.row.capm
  have b2 : len ≤ maxLen := Nat.le_trans h.row.le h.row.capm
  have b3 : ll ≤ maxLen := Nat.le_trans hZ.row.le hZ.row.capm
  have b4 : rl ≤ maxLen := Nat.le_trans hR.row.le hR.row.capm
  go_enter Try.func3, Try.ntmps3
  go_wp2_with fail
  refine (guard6 pa pl pc pb po S ao len cap b off E la ll lc ra rl rc w hS h b3 b4).mono ?_
  rintro e w1 ⟨r1, rfl, hw1, _⟩
  subst hw1
  cases r1 with
  | false =>
    go_wp2_with fail
    go_ret
    exact ⟨rfl, Below.refl _ _⟩
  | true =>
    unfold maxLen at b1 b2 b3 b4
    by_cases t1 : 65536 < pl
    · go_wp2_with fail
      go_ret
      exact ⟨rfl, Below.refl _ _⟩
    by_cases t2 : 65536 < len
    · go_wp2_with fail
      go_ret
      exact ⟨rfl, Below.refl _ _⟩
    by_cases t3 : 65536 < ll
    · go_wp2_with fail
      go_ret
      exact ⟨rfl, Below.refl _ _⟩
    by_cases t4 : 65536 < rl
    · go_wp2_with fail
      go_ret
      exact ⟨rfl, Below.refl _ _⟩
    go_wp2_with fail
    refine (traceBytes_any pa pl pc pb po S ao len cap b off E la ra ll lc rl rc w1 hS h (by omega) (by omega) (by omega) (by omega)).mono ?_
    rintro e w2 ⟨tb, rfl, hb2, hcl⟩
    by_cases t5 : 1048576 < tb
    · go_wp2_with fail
      go_ret
      exact ⟨rfl, hb2⟩
    replace hcl := hcl (by omega)
    by_cases t6 : ll = len
    · subst t6
      by_cases t7 : rl = ll
      · subst t7
        have HCL : Hid (∀ i, i < rl → (E i).cl ≤ 1048576) := hcl
        clear hcl
        go_wp2_with fail
        refine (inRange_any ao rl cap b off E pl w2 (h.below hb2)).mono ?_
        rintro e w3 ⟨r3, rfl, hw3, hpr⟩
        subst hw3
        cases r3 with
        | false =>
          go_wp2_with fail
          go_ret
          exact ⟨rfl, hb2⟩
        | true =>
          have HPR : Hid (∀ i, i < rl → 0 ≤ (E i).proc ∧ (E i).proc < pl) := hpr rfl
          clear hpr
          have h2 := h.below hb2
          have hZ2 := hZ.below hb2
          have hR2 := hR.below hb2
          have hbs := hb2.size
          have HB2 : Hid (Below w1.heap.size w1 w3) := hb2
          clear h hS hZ hR hb2
          obtain ⟨i0, hi, hz0, hz1, hz2⟩ := info_parts info35
          obtain ⟨j0, hj, jz0, jz1, jz2⟩ := info_parts info3
          go_upto_if 72 with fail
          go_cut [2, 9] (fun s2 _ wc => ∃ la' lc' lb' lo', s2 = .slice la' rl lc' ∧ Ints .u64 wc la' rl lc' lb' lo' Z ∧ Below w3.heap.size w3 wc)
          case first => as_aux_lemma =>
            cases la with
            | none =>
              go_wp2_with fail
              go_meet
              case rel => exact ⟨none, lc, lb, lo, rfl, hZ2, Below.refl _ _⟩
            | some a =>
              go_wp2_with (at_make; refine wpList_make_full _ rfl _ _ 24 rfl w3.heap.size 35 i0 (.int .u64 0) 1 Try.underlying24 hi hz0 hz1 .i64 .i64 (rl : Int) (rl : Int) rl rfl rfl rfl rfl (by rw [hz2]; omega) (by unfold maxLen; omega) (Nat.le_refl _) ?_)
              intro w4 hown hgrow
              have hb4 : Below w3.heap.size w3 w4 := (Below.refl _ _).grown hgrow (Nat.le_refl _) (fun _ h => by cases h)
              have hsz : Size w4 w3.heap.size rl := by have := made_size hown; simpa using this
              have hz4 := hZ2.below hb4
              clear hown hgrow
              obtain ⟨w5, hrun, hz5, hb5⟩ := copy_run 24 3 35 Try.underlying24 size35 .u64 (some a) rl lc lb lo Z w4 hz4 w3.heap.size hsz
              have hb6 := hb4.trans hb5
              clear hb4 hb5 hsz hz4
              go_wp2_with fail
              go_meet
              case rel => exact ⟨_, _, _, _, rfl, hz5, hb6⟩
          case rest => as_aux_lemma =>
            obtain ⟨la', lc', lb', lo', rfl, hZ3, hb3⟩ := hcut
            have h3 := h2.below hb3
            have hR3 := hR2.below hb3
            have HB3 : Hid (Below w1.heap.size w1 wc) := HB2.out.trans (hb3.mono hbs)
            have hbs3 : w1.heap.size ≤ wc.heap.size := by have := hb3.size; omega
            clear h2 hZ2 hR2 hb3 HB2
            go_upto_if 81 with fail
            go_cut [3, 10] (fun s3 _ wd => ∃ ra' rc' rb' ro', s3 = .slice ra' rl rc' ∧ Ints .i64 wd ra' rl rc' rb' ro' R ∧ Below wc.heap.size wc wd)
            case first => as_aux_lemma =>
              cases ra with
              | none =>
                go_wp2_with fail
                go_meet
                case rel => exact ⟨none, rc, rb, ro, rfl, hR3, Below.refl _ _⟩
              | some a =>
                go_wp2_with (at_make; refine wpList_make_full _ rfl _ _ 25 rfl wc.heap.size 3 j0 (.int .i64 0) 1 Try.underlying25 hj jz0 jz1 .i64 .i64 (rl : Int) (rl : Int) rl rfl rfl rfl rfl (by rw [jz2]; omega) (by unfold maxLen; omega) (Nat.le_refl _) ?_)
                intro w4 hown hgrow
                have hb4 : Below wc.heap.size wc w4 := (Below.refl _ _).grown hgrow (Nat.le_refl _) (fun _ h => by cases h)
                have hsz : Size w4 wc.heap.size rl := by have := made_size hown; simpa using this
                have hz4 := hR3.below hb4
                clear hown hgrow
                obtain ⟨w5, hrun, hz5, hb5⟩ := copy_run 25 3 3 Try.underlying25 size3 .i64 (some a) rl rc rb ro R w4 hz4 wc.heap.size hsz
                have hb6 := hb4.trans hb5
                clear hb4 hb5 hsz hz4
                go_wp2_with fail
                go_meet
                case rel => exact ⟨_, _, _, _, rfl, hz5, hb6⟩
            case rest => as_aux_lemma =>
              obtain ⟨ra', rc', rb', ro', rfl, hR4, hb4⟩ := hcut
              have h4 := h3.below hb4
              have hZ4 := hZ3.below hb4
              have hR4' := hR4
              have HB4 : Hid (Below w1.heap.size w1 wc) := HB3.out.trans (hb4.mono hbs3)
              have hbs4 : w1.heap.size ≤ wc.heap.size := by have := hb4.size; omega
              clear h3 hZ3 hR3 hb4 HB3
              go_wp2_with fail
              refine (toTrace_any pa pl pc ao rl cap b off E wc h4 (by omega) HCL.out).mono ?_
              rintro e w7 ⟨T, vo, vc, B, K, rfl, hT, hb7⟩
              have h6 := h4.below hb7
              have hZ6 := hZ4.below hb7
              have hR6 := hR4'.below hb7
              have HB6 : Hid (Below w1.heap.size w1 w7) := HB4.out.trans (hb7.mono hbs4)
              have hbs6 : w1.heap.size ≤ w7.heap.size := by have := hb7.size; omega
              clear h4 hZ4 hR4 hR4' hb7 HB4
              go_wp2_with fail
              refine (zzbyProc_any T pa pl pc vo rl vc B E K la' lc' lb' lo' Z ra' rc' rb' ro' R w7 hT hZ6 hR6 (by omega) (by omega) HPR.out (fun j hj => (h6.ok j hj).kind)).mono ?_
              rintro e w8 ⟨G, rfl, hG1, hG2, hTl, hb8⟩
              have h7 := h6.below hb8
              have hZ7 := hZ6.below hb8
              have hR7 := hR6.below hb8
              have HB7 : Hid (Below w1.heap.size w1 w8) := HB6.out.trans (hb8.mono hbs6)
              have hbs7 : w1.heap.size ≤ w8.heap.size := by have := hb8.size; omega
              clear h6 hZ6 hR6 hT hb8 HB6 hG1
              obtain ⟨k0, hk, kz0, kz1, kz2⟩ := info_parts info39
              go_wp2_with (at_make; refine wpList_make_full _ rfl _ _ 33 rfl w8.heap.size 39 k0 _ 6 Try.underlying33 hk kz0 kz1 .i64 .i64 (pl : Int) (pl : Int) pl rfl rfl rfl rfl (by rw [kz2]; omega) (by unfold maxLen; omega) (Nat.le_refl _) ?_)
              intro w9 hown hgrow
              have hb9 : Below w8.heap.size w8 w9 := (Below.refl _ _).grown hgrow (Nat.le_refl _) (fun _ h => by cases h)
              have hW0 : Tals w9 w8.heap.size pl (Wt E Z R rl 0) := made_tals hown _ (fun p => rfl)
              clear hown hgrow
              go_wp2_with fail
              go_loopw [13] (fun t wr => ∃ i : Nat, i ≤ rl ∧ t = .int .i64 (i : Int) ∧ Tals wr w8.heap.size pl (Wt E Z R rl i) ∧ Below w8.heap.size w8 wr) (fun t _ => rl - (intOf t).toNat)
              case atStart => exact ⟨0, Nat.zero_le _, rfl, hW0, hb9⟩
              case round => as_aux_lemma =>
                obtain ⟨i, hi, rfl, hF, hbr⟩ := hrel
                clear hW0 hb9
                by_cases hlt : i < rl
                · have ha1 := h7.row.ad (by omega)
                  have ha2 := hZ7.row.ad (by omega)
                  have ha3 := hR7.row.ad (by omega)
                  subst ha1 ha2 ha3
                  have c0 := (h7.below hbr).row.at0 i hlt rfl
                  have c1 := (h7.below hbr).row.atj i hlt 1 rfl
                  have c2 := (h7.below hbr).row.atj i hlt 2 rfl
                  have cz := (hZ7.below hbr).at i hlt
                  have cr := (hR7.below hbr).at i hlt
                  have hzb := bounds_u64 (hZ7.ok i hlt)
                  have hrb := bounds_i64 (hR7.ok i hlt)
                  have hkb := bounds_u8 (h7.ok i hlt).kind
                  have hbl := h7.row.lt (by omega)
                  have hlbl := hZ7.row.lt (by omega)
                  have hrbl := hR7.row.lt (by omega)
                  obtain ⟨hp0, hp1⟩ := HPR.out i hlt
                  obtain ⟨q, hq⟩ : ∃ q : Nat, (E i).proc = (q : Int) := ⟨(E i).proc.toNat, by omega⟩
                  rw [hq] at c0 hp1
                  have hqp : q < pl := by omega
                  obtain ⟨t, ht⟩ : ∃ t, t = Wt E Z R rl i q := ⟨_, rfl⟩
                  have hFo := hF.open' q ht
                  have f0 : wr.cell? ⟨w8.heap.size, q * 6, none⟩ = some (.int .i64 (t.ev : Int)) := hFo.get hqp 0 rfl
                  have fz := hF.size.free (q * 6)
                  have hGl : w8.heap.size < wr.heap.size := by obtain ⟨cur, t, hc, _⟩ := hF.size; exact lt_of_block hc
                  have r := run_le E Z R q i
                  obtain ⟨r1, r2, r3, r4⟩ : t.ev ≤ i ∧ t.lo ≤ i ∧ t.se ≤ i ∧ t.re ≤ i := by rw [ht]; exact r
                  have HQ : Hid ((E i).proc = (q : Int)) := hq
                  have HT : Hid (t = Wt E Z R rl i q) := ht
                  have HFo : Hid (Tals wr w8.heap.size pl (upd (Wt E Z R rl i) q t)) := hFo
                  have HBR : Hid (Below w8.heap.size w8 wr) := hbr
                  have n1 : b ≠ w8.heap.size := by omega
                  have n2 : lb' ≠ w8.heap.size := by omega
                  have n3 : rb' ≠ w8.heap.size := by omega
                  clear hF hbr hq ht hFo r
                  go_upto_region 28 with fail
                  have d0 := far_cell c0 n1 (q * 6) (.int .i64 ((t.ev : Int) + 1))
                  have d1 := far_cell c1 n1 (q * 6) (.int .i64 ((t.ev : Int) + 1))
                  have d2 := far_cell c2 n1 (q * 6) (.int .i64 ((t.ev : Int) + 1))
                  have dr := far_cell cr n3 (q * 6) (.int .i64 ((t.ev : Int) + 1))
                  have hT1 : Tals (wr.setCell ⟨w8.heap.size, q * 6, none⟩ (.int .i64 ((t.ev : Int) + 1))) w8.heap.size pl (upd (Wt E Z R rl i) q ⟨t.ev + 1, t.lo, t.se, t.re, t.mj, t.fi⟩) := HFo.out.field hqp 0 (.int .i64 ((t.ev : Int) + 1)) ⟨t.ev + 1, t.lo, t.se, t.re, t.mj, t.fi⟩ (by omega) rfl
                  have hB1 : Below w8.heap.size w8 (wr.setCell ⟨w8.heap.size, q * 6, none⟩ (.int .i64 ((t.ev : Int) + 1))) := HBR.out.setCell (Nat.le_refl _) _
                  generalize (wr.setCell ⟨w8.heap.size, q * 6, none⟩ (.int .i64 ((t.ev : Int) + 1))) = W1 at *
                  have HT1 : Hid (Tals W1 w8.heap.size pl (upd (Wt E Z R rl i) q ⟨t.ev + 1, t.lo, t.se, t.re, t.mj, t.fi⟩)) := hT1
                  have HB1 : Hid (Below w8.heap.size w8 W1) := hB1
                  clear hT1 hB1 c0 c1 c2 cz cr f0 fz
                  have hi0 : (0 : Int) ≤ (i : Int) := Int.natCast_nonneg _
                  have hi1 : (i : Int) < (rl : Int) := by omega
                  go_region_held3 (fun w' => w'.cell? ⟨b, off + i * 7 + 1, none⟩ = some (.int .u8 (E i).kind) ∧ w'.cell? ⟨b, off + i * 7 + 2, none⟩ = some (.slice (E i).sa (E i).sl (E i).sc) ∧ w'.cell? ⟨rb', ro' + i, none⟩ = some (.int .i64 (R i)))
                    (go_keep)
                    ((go_at_call 11; refine (kind_any _ _ _ _).mono ?_; rintro e w' ⟨rfl, rfl⟩))
                  obtain ⟨κ, hκ⟩ : ∃ κ, kindOf (E i).kind (E i).sl (R i) = κ := ⟨_, rfl⟩
                  rw [hκ]
                  obtain ⟨y1, hy1⟩ : ∃ y, y = if κ = 1 then t.lo + 1 else t.lo := ⟨_, rfl⟩
                  obtain ⟨y2, hy2⟩ : ∃ y, y = if κ = 2 then t.se + 1 else t.se := ⟨_, rfl⟩
                  obtain ⟨y3, hy3⟩ : ∃ y, y = if κ = 3 then t.re + 1 else t.re := ⟨_, rfl⟩
                  obtain ⟨x, hx⟩ : ∃ x, x = (run E Z R i q).fi := ⟨_, rfl⟩
                  have hxr := (run_range E Z R q rl (fun j hj => bounds_u64 (hZ7.ok j hj)) i (by omega)).2
                  rw [← hx] at hxr
                  have hmr : 0 ≤ t.mj ∧ t.mj ≤ 18446744073709551615 := by
                    have := (run_range E Z R q rl (fun j hj => bounds_u64 (hZ7.ok j hj)) i (by omega)).1
                    rw [HT.out]; exact this
                  have HK : Hid (kindOf (E i).kind (E i).sl (R i) = κ) := hκ
                  have HY1 : Hid (y1 = if κ = 1 then t.lo + 1 else t.lo) := hy1
                  have HY2 : Hid (y2 = if κ = 2 then t.se + 1 else t.se) := hy2
                  have HY3 : Hid (y3 = if κ = 3 then t.re + 1 else t.re) := hy3
                  have HX : Hid (x = (run E Z R i q).fi) := hx
                  clear hκ d1 d2 dr d0 hy1 hy2 hy3 hx HFo HBR
                  go_upto_if 139 with fail
                  go_cut [] (fun wx => Tals wx w8.heap.size pl (upd (Wt E Z R rl i) q ⟨t.ev + 1, y1, y2, y3, t.mj, t.fi⟩) ∧ Below w8.heap.size w8 wx)
                  case first => as_aux_lemma =>
                    have f1 := HT1.out.get hqp 1 rfl
                    have f2 := HT1.out.get hqp 2 rfl
                    have f3 := HT1.out.get hqp 3 rfl
                    have fz := HT1.out.size.free
                    by_cases k1 : κ = 1
                    · have e1 : y1 = t.lo + 1 := by rw [HY1.out, if_pos k1]
                      have e2 : y2 = t.se := by rw [HY2.out, if_neg (by omega)]
                      have e3 : y3 = t.re := by rw [HY3.out, if_neg (by omega)]
                      subst e1 e2 e3
                      subst k1
                      go_wp2_with fail
                      go_meet
                      case rel => exact ⟨Tals.drew (HT1.out.field hqp 1 _ ⟨t.ev + 1, t.lo + 1, t.se, t.re, t.mj, t.fi⟩ (by omega) rfl), (HB1.out.setCell (Nat.le_refl _) _).drew⟩
                    · have e1 : y1 = t.lo := by rw [HY1.out, if_neg k1]
                      by_cases k2 : κ = 2
                      · have e2 : y2 = t.se + 1 := by rw [HY2.out, if_pos k2]
                        have e3 : y3 = t.re := by rw [HY3.out, if_neg (by omega)]
                        subst e1 e2 e3
                        subst k2
                        go_wp2_with fail
                        go_meet
                        case rel => exact ⟨Tals.drew (HT1.out.field hqp 2 _ ⟨t.ev + 1, t.lo, t.se + 1, t.re, t.mj, t.fi⟩ (by omega) rfl), (HB1.out.setCell (Nat.le_refl _) _).drew⟩
                      · have e2 : y2 = t.se := by rw [HY2.out, if_neg k2]
                        by_cases k3 : κ = 3
                        · have e3 : y3 = t.re + 1 := by rw [HY3.out, if_pos k3]
                          subst e1 e2 e3
                          subst k3
                          go_wp2_with fail
                          go_meet
                          case rel => exact ⟨Tals.drew (HT1.out.field hqp 3 _ ⟨t.ev + 1, t.lo, t.se, t.re + 1, t.mj, t.fi⟩ (by omega) rfl), (HB1.out.setCell (Nat.le_refl _) _).drew⟩
                        · have e3 : y3 = t.re := by rw [HY3.out, if_neg k3]
                          subst e1 e2 e3
                          go_wp2_with fail
                          go_meet
                          case rel => exact ⟨Tals.drew HT1.out, HB1.out.drew⟩
                  case rest => as_aux_lemma =>
                    obtain ⟨hT2, hB2⟩ := hcut
                    have hE2 := h7.below hB2
                    have hZ2 := hZ7.below hB2
                    have HT2 : Hid (Tals wc w8.heap.size pl (upd (Wt E Z R rl i) q ⟨t.ev + 1, y1, y2, y3, t.mj, t.fi⟩)) := hT2
                    have HB2 : Hid (Below w8.heap.size w8 wc) := hB2
                    clear hT2 hB2 HT1 HB1
                    go_upto_block 2 with fail
                    go_cut [16, 17] (fun s16 _ wx => wx = wc ∧ s16 = .int .u64 x)
                    case first => as_aux_lemma =>
                      go_wp2_with fail
                      go_loop [16, 17] (fun s t => s = .int .u64 0 ∧ ∃ m : Nat, m ≤ i ∧ t = .int .i64 ((m : Int) - 1) ∧ ∀ j, m ≤ j → j < i → q ≠ (E j).proc.toNat) (fun _ t => (intOf t + 1).toNat)
                      case atStart => exact ⟨rfl, i, Nat.le_refl _, rfl, fun j h1 h2 => by omega⟩
                      case round =>
                        obtain ⟨rfl, m, hm, rfl, hj⟩ := hrel
                        have HJ : Hid (∀ j, m ≤ j → j < i → q ≠ (E j).proc.toNat) := hj
                        clear hj
                        by_cases m0 : m = 0
                        · have hneg : ¬ (0 : Int) ≤ (m : Int) - 1 := by omega
                          have HR0 : Hid (x = 0) := by show _ = _; rw [HX.out]; exact prev_none (fun j hj => HJ.out j (by omega) hj)
                          go_wp2_with fail
                          go_meet
                          case rel => exact ⟨rfl, by rw [HR0.out]⟩
                        · obtain ⟨k, rfl⟩ : ∃ k, m = k + 1 := ⟨m - 1, by omega⟩
                          rw [show ((k + 1 : Nat) : Int) - 1 = (k : Int) from by omega]
                          have ck := hE2.row.at0 k (by omega) rfl
                          have cz := hZ2.at k (by omega)
                          obtain ⟨hk0, _⟩ := HPR.out k (by omega)
                          have hkp : (0 : Int) ≤ (k : Int) := by omega
                          by_cases e : (E k).proc = (q : Int)
                          · rw [e] at ck
                            have HR0 : Hid (x = Z k) := by show _ = _; rw [HX.out]; exact prev_hit (by omega) (fun j h1 h2 => HJ.out j (by omega) h2) (by omega)
                            clear e hE2 hZ2
                            go_wp2_with fail
                            go_meet
                            case rel => exact ⟨rfl, by rw [HR0.out]⟩
                          · have hne : ((E k).proc == (q : Int)) = false := by simpa using e
                            clear hE2 hZ2
                            go_wp2_with fail
                            go_round
                            case rel =>
                              refine ⟨rfl, k, by omega, rfl, fun j h1 h2 => ?_⟩
                              by_cases ej : j = k
                              · subst ej; omega
                              · exact HJ.out j (by omega) h2
                            case measure => simp [intOf]
                    case rest => as_aux_lemma =>
                      obtain ⟨hwc, rfl⟩ := hcut
                      subst hwc
                      have cz := hZ2.at i hlt
                      obtain ⟨y, hy⟩ : ∃ y, IntKind.u64.wrap (Z i - x) = y := ⟨_, rfl⟩
                      have HYY : Hid (sub64 (Z i) x = y) := hy
                      have hyb := sub64_range (Z i) x
                      rw [HYY.out] at hyb
                      have cmj := HT2.out.get hqp 4 rfl
                      clear hZ2
                      go_upto_if 197 with fail
                      go_cut [] (fun wx => Tals wx w8.heap.size pl (upd (Wt E Z R rl i) q ⟨t.ev + 1, y1, y2, y3, max t.mj (sub64 (Z i) x), t.fi⟩) ∧ Below w8.heap.size w8 wx)
                      case first => as_aux_lemma =>
                        have f4 := HT2.out.get hqp 4 rfl
                        have fz := HT2.out.size.free
                        by_cases hm : t.mj < y
                        · have HM : Hid (max t.mj (sub64 (Z i) x) = y) := by show _ = _; rw [HYY.out]; omega
                          go_wp2_with fail
                          go_meet
                          case rel =>
                            rw [HM.out]
                            exact ⟨HT2.out.field hqp 4 _ ⟨t.ev + 1, y1, y2, y3, y, t.fi⟩ (by omega) rfl, HB2.out.setCell (Nat.le_refl _) _⟩
                        · have HM : Hid (max t.mj (sub64 (Z i) x) = t.mj) := by show _ = _; rw [HYY.out]; omega
                          go_wp2_with fail
                          go_meet
                          case rel =>
                            rw [HM.out]
                            exact ⟨HT2.out, HB2.out⟩
                      case rest => as_aux_lemma =>
                        obtain ⟨hT3, hB3⟩ := hcut
                        have hE3 := h7.below hB3
                        have cz3 := (hZ7.below hB3).at i hlt
                        have HT3 : Hid (Tals wc w8.heap.size pl (upd (Wt E Z R rl i) q ⟨t.ev + 1, y1, y2, y3, max t.mj (sub64 (Z i) x), t.fi⟩)) := hT3
                        have HB3 : Hid (Below w8.heap.size w8 wc) := hB3
                        clear hT3 hB3 HT2 HB2 cz cmj hE2 hy
                        go_upto_block 4 with fail
                        go_cut [19, 20] (fun s19 _ wx => wx = wc ∧ s19 = .bool (lateB E rl i))
                        case first => as_aux_lemma =>
                          go_wp2_with fail
                          go_loop [19, 20] (fun s t => s = .bool false ∧ ∃ m : Nat, i < m ∧ m ≤ rl ∧ t = .int .i64 (m : Int) ∧ ∀ j, i < j → j < m → (E j).proc ≠ (E i).proc) (fun _ t => rl - (intOf t).toNat)
                          case atStart => exact ⟨rfl, i + 1, by omega, by omega, by go_num, fun j h1 h2 => by omega⟩
                          case round =>
                            obtain ⟨rfl, m, him, hm, rfl, hj⟩ := hrel
                            have HJ : Hid (∀ j, i < j → j < m → (E j).proc ≠ (E i).proc) := hj
                            clear hj
                            by_cases hml : m < rl
                            · have ck := hE3.row.at0 m hml rfl
                              by_cases e : (E m).proc = (q : Int)
                              · rw [e] at ck
                                have HR0 : Hid (lateB E rl i = true) := lateB_true him hml (by rw [e, HQ.out])
                                clear e hE3
                                go_wp2_with fail
                                go_meet
                                case rel => exact ⟨rfl, by rw [HR0.out]⟩
                              · have hne : ((E m).proc == (q : Int)) = false := by simpa using e
                                clear hE3
                                go_wp2_with fail
                                go_round
                                case rel =>
                                  refine ⟨rfl, m + 1, by omega, by omega, by go_num, fun j h1 h2 => ?_⟩
                                  by_cases ej : j = m
                                  · subst ej; rw [HQ.out]; exact e
                                  · exact HJ.out j h1 (by omega)
                                case measure => simp [intOf]; omega
                            · have HR0 : Hid (lateB E rl i = false) := lateB_false fun j h1 h2 => HJ.out j h1 (by omega)
                              clear hE3
                              go_wp2_with fail
                              go_meet
                              case rel => exact ⟨rfl, by rw [HR0.out]⟩
                        case rest => as_aux_lemma =>
                          obtain ⟨hwc, rfl⟩ := hcut
                          subst hwc
                          clear hE3
                          have HST := Wt_step (n := rl) HQ.out HT.out HK.out
                          rw [← HY1.out, ← HY2.out, ← HY3.out, ← HX.out] at HST
                          have HSH : Hid (∀ p, Wt E Z R rl (i + 1) p = if p = q then ⟨t.ev + 1, y1, y2, y3, max t.mj (sub64 (Z i) x), if lateB E rl i = false then Z i else t.fi⟩ else Wt E Z R rl i p) := HST
                          clear HST
                          have f5 := HT3.out.get hqp 5 rfl
                          have fz := HT3.out.size.free
                          cases hl : lateB E rl i with
                          | true =>
                            rw [hl] at HSH
                            clear hl
                            go_wp2_with fail
                            go_roundw
                            case rel =>
                              have HF : Tals wc w8.heap.size pl (Wt E Z R rl (i + 1)) := HT3.out.congr fun p _ => (HSH.out p).symm
                              first
                                | exact ⟨i + 1, by omega, by go_num, HF, HB3.out⟩
                                | ((repeat apply Exists.intro); exact ⟨⟨i + 1, by omega, by go_num, HF, HB3.out⟩, rfl⟩)
                            case measure => simp [intOf]; omega
                          | false =>
                            rw [hl] at HSH
                            clear hl
                            go_wp2_with fail
                            go_roundw
                            case rel =>
                              have HF : Tals (wc.setCell ⟨w8.heap.size, q * 6 + 5, none⟩ (.int .u64 (Z i))) w8.heap.size pl (Wt E Z R rl (i + 1)) := (HT3.out.field hqp 5 (.int .u64 (Z i)) ⟨t.ev + 1, y1, y2, y3, max t.mj (sub64 (Z i) x), Z i⟩ (by omega) rfl).congr fun p _ => (HSH.out p).symm
                              first
                                | exact ⟨i + 1, by omega, by go_num, HF, HB3.out.setCell (Nat.le_refl _) _⟩
                                | ((repeat apply Exists.intro); exact ⟨⟨i + 1, by omega, by go_num, HF, HB3.out.setCell (Nat.le_refl _) _⟩, rfl⟩)
                            case measure => simp [intOf]; omega
                · as_aux_lemma =>
                  obtain rfl : i = rl := by omega
                  have hW : Tals wr w8.heap.size pl (run E Z R i) := hF.congr fun p _ => Wt_run (fun j hj => (HPR.out j hj).1) p
                  have hG := hTl.below hbr hG2
                  have hGW : w8.heap.size < wr.heap.size := by obtain ⟨cur, t, hc, _⟩ := hF.size; exact lt_of_block hc
                  have hGl : G < wr.heap.size := by omega
                  have HBX : Hid (Below w1.heap.size w1 wr) := HB7.out.trans (hbr.mono hbs7)
                  have hbsX : w1.heap.size ≤ wr.heap.size := by omega
                  clear hF hTl hbr h7 hZ7 hR7 HB7
                  go_wp2_with fail
                  go_loopw [21] (fun t ws => ∃ p : Nat, p ≤ pl ∧ t = .int .i64 (p : Int) ∧ Below wr.heap.size wr ws) (fun t _ => pl - (intOf t).toNat)
                  case atStart => exact ⟨0, Nat.zero_le _, rfl, Below.refl _ _⟩
                  case round =>
                    obtain ⟨p, hp, rfl, hbr⟩ := hrel
                    by_cases hlt3 : p < pl
                    · have hG9 := hG.below hbr hGl
                      have hW9 := hW.below hbr hGW
                      have hle := run_le E Z R p i
                      have f0 : wr.cell? ⟨G, p * 6, none⟩ = some (.int .i64 ((run E Z R i p).ev : Int)) := hG9.cell p hlt3 0 _ rfl
                      have f1 := hG9.cell p hlt3 1 _ rfl
                      have f2 := hG9.cell p hlt3 2 _ rfl
                      have f3 := hG9.cell p hlt3 3 _ rfl
                      have f4 := hG9.cell p hlt3 4 _ rfl
                      have f5 := hG9.cell p hlt3 5 _ rfl
                      have g0 : wr.cell? ⟨w8.heap.size, p * 6, none⟩ = some (.int .i64 ((run E Z R i p).ev : Int)) := hW9.cell p hlt3 0 _ rfl
                      have g1 := hW9.cell p hlt3 1 _ rfl
                      have g2 := hW9.cell p hlt3 2 _ rfl
                      have g3 := hW9.cell p hlt3 3 _ rfl
                      have g4 := hW9.cell p hlt3 4 _ rfl
                      have g5 := hW9.cell p hlt3 5 _ rfl
                      have hlt1 : G < wr.heap.size := by have := hbr.size; omega
                      have hlt2 : w8.heap.size < wr.heap.size := by have := hbr.size; omega
                      generalize run E Z R i p = t at *
                      have HBR : Hid (Below _ _ wr) := hbr
                      clear hG9 hW9 hG hW hbr hle
                      go_wp2_with fail
                      go_roundw
                      case rel => exact ⟨p + 1, by omega, by go_num, (HBR.out.alloc HBR.out.size _).alloc (by have := HBR.out.size; simp; omega) _⟩
                      case measure => simp [intOf]; omega
                    · go_wp2_with fail
                      go_ret
                      exact ⟨rfl, HBX.out.trans (hbr.mono hbsX)⟩
      · go_wp2_with fail
        go_ret
        exact ⟨rfl, hb2⟩
    · go_wp2_with fail
      go_ret
      exact ⟨rfl, hb2⟩
end Go.Proofs.Qxb6606440a
