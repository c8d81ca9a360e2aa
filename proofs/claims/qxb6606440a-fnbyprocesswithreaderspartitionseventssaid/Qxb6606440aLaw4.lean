/-
  FnByProcessWithReadersPartitionsEvents (function 4): the walk.
-/
import Derived.Test.Qxb6606440aGuard12
import Derived.Test.Qxb6606440aBy
import Derived.Test.Qxb6606440aReaders
import Derived.Test.Qxb6606440aParts
import Derived.Deep.DeepCutAuto
namespace Go.Proofs.Qxb6606440a
open Go.RowKit

def SaysTrue (w : World) (e : Ending) (w' : World) : Prop := e = .returned (.bool true) ∧ Below w.heap.size w w'

set_option maxHeartbeats 8000000 in
set_option maxRecDepth 20000 in
theorem law4 (pa : Option Addr) (pl pc pb po : Nat) (S : Nat → ByteArray) (ao : Option Addr) (len cap b off : Nat) (E : Nat → EvD) (la : Option Addr) (ll lc lb lo : Nat) (Z : Nat → Int) (w : World)
    (hS : Strs w pa pl pc pb po S) (h : Evs w ao len cap b off E) (hZ : Ints .u64 w la ll lc lb lo Z) :
    Calls Try.prog 4 #[.slice pa pl pc, .slice ao len cap, .slice la ll lc] w (SaysTrue w) := by
  have b1 : pl ≤ maxLen := Nat.le_trans hS.row.le hS.row.capm
  have b2 : len ≤ maxLen := Nat.le_trans h.row.le h.row.capm
  have b3 : ll ≤ maxLen := Nat.le_trans hZ.row.le hZ.row.capm
  go_enter Try.func4, Try.ntmps4
  go_wp2_with fail
  refine (guard12 pa pl pc pb po S ao len cap b off E la ll lc w hS h b3).mono ?_
  rintro e w1 ⟨r1, rfl, hw1, _⟩
  subst hw1
  cases r1 with
  | false =>
    go_wp2_with fail
    go_ret
    exact ⟨rfl, Below.refl _ _⟩
  | true =>
    unfold maxLen at b1 b2 b3
    by_cases t1 : 65536 < pl
    · go_wp2_with fail
      go_ret
      exact ⟨rfl, Below.refl _ _⟩
    by_cases t2 : 65536 < len
    · go_wp2_with fail
      go_ret
      exact ⟨rfl, Below.refl _ _⟩
    by_cases t3 : 65536 < ll
    · go_wp2_with fail
      go_ret
      exact ⟨rfl, Below.refl _ _⟩
    go_wp2_with fail
    refine (traceBytes_any pa pl pc pb po S ao len cap b off E la none ll lc 0 0 w1 hS h (by omega) (by omega) (by omega) (by omega)).mono ?_
    rintro e w2 ⟨tb, rfl, hb2, hcl⟩
    by_cases t5 : 1048576 < tb
    · go_wp2_with fail
      go_ret
      exact ⟨rfl, hb2⟩
    replace hcl := hcl (by omega)
    by_cases t6 : ll = len
    · subst t6
      have HCL : Hid (∀ i, i < ll → (E i).cl ≤ 1048576) := hcl
      clear hcl
      go_wp2_with fail
      refine (inRange_any ao ll cap b off E pl w2 (h.below hb2)).mono ?_
      rintro e w3 ⟨r3, rfl, hw3, hpr⟩
      subst hw3
      cases r3 with
      | false =>
        go_wp2_with fail
        go_ret
        exact ⟨rfl, hb2⟩
      | true =>
        have HPR : Hid (∀ i, i < ll → 0 ≤ (E i).proc ∧ (E i).proc < pl) := hpr rfl
        clear hpr
        have h2 := h.below hb2
        have hZ2 := hZ.below hb2
        have hbs := hb2.size
        have HB2 : Hid (Below w1.heap.size w1 w3) := hb2
        clear h hS hZ hb2
        obtain ⟨i0, hi, hz0, hz1, hz2⟩ := info_parts info35
        go_upto_if 49 with fail
        go_cut [2, 7] (fun s2 _ wc => ∃ la' lc' lb' lo', s2 = .slice la' ll lc' ∧ Ints .u64 wc la' ll lc' lb' lo' Z ∧ Below w3.heap.size w3 wc)
        case first => as_aux_lemma =>
          cases la with
          | none =>
            go_wp2_with fail
            go_meet
            case rel => exact ⟨none, lc, lb, lo, rfl, hZ2, Below.refl _ _⟩
          | some a =>
            go_wp2_with (at_make; refine wpList_make_full _ rfl _ _ 24 rfl w3.heap.size 35 i0 (.int .u64 0) 1 Try.underlying24 hi hz0 hz1 .i64 .i64 (ll : Int) (ll : Int) ll rfl rfl rfl rfl (by rw [hz2]; omega) (by unfold maxLen; omega) (Nat.le_refl _) ?_)
            intro w4 hown hgrow
            have hb4 : Below w3.heap.size w3 w4 := (Below.refl _ _).grown hgrow (Nat.le_refl _) (fun _ h => by cases h)
            have hsz : Size w4 w3.heap.size ll := by have := made_size hown; simpa using this
            have hz4 := hZ2.below hb4
            clear hown hgrow
            obtain ⟨w5, hrun, hz5, hb5⟩ := copy_run 24 3 35 Try.underlying24 size35 .u64 (some a) ll lc lb lo Z w4 hz4 w3.heap.size hsz
            have hb6 := hb4.trans hb5
            clear hb4 hb5 hsz hz4
            go_wp2_with fail
            go_meet
            case rel => exact ⟨_, _, _, _, rfl, hz5, hb6⟩
        case rest => as_aux_lemma =>
          obtain ⟨la', lc', lb', lo', rfl, hZ3, hb3⟩ := hcut
          have h3 := h2.below hb3
          have HB3 : Hid (Below w1.heap.size w1 wc) := HB2.out.trans (hb3.mono hbs)
          have hbs3 : w1.heap.size ≤ wc.heap.size := by have := hb3.size; omega
          clear h2 hZ2 hb3 HB2
          go_wp2_with fail
          go_loop [6, 8] (fun r t => r = .bool false ∧ ∃ i : Nat, i ≤ ll ∧ t = .int .i64 (i : Int) ∧ ∀ m, m < i → (0 ≤ (E m).kind ∧ (E m).kind ≤ 3) ∧ SndOk wc ll (E m)) (fun _ t => ll - (intOf t).toNat)
          case atStart => exact ⟨rfl, 0, Nat.zero_le _, rfl, fun m hm => by omega⟩
          case round => as_aux_lemma =>
            obtain ⟨rfl, i, hi, rfl, hgood⟩ := hrel
            have HG : Hid (∀ m, m < i → (0 ≤ (E m).kind ∧ (E m).kind ≤ 3) ∧ SndOk wc ll (E m)) := hgood
            clear hgood
            by_cases hlt : i < ll
            · have ha1 := h3.row.ad (by omega)
              subst ha1
              have c1 := h3.row.atj i hlt 1 rfl
              have c2 := h3.row.atj i hlt 2 rfl
              have hkb := bounds_u8 (h3.ok i hlt).kind
              obtain ⟨sb, so, SZ, hsn⟩ := (h3.ok i hlt).snd
              have hsl := hsn.row.le
              have hsm := hsn.row.capm
              unfold maxLen at hsm
              by_cases k3 : 3 < (E i).kind
              · clear h3 hsn
                go_wp2_with fail
                go_ret
                exact ⟨rfl, HB3.out⟩
              · go_wp2_with fail
                go_loop [6, 9] (fun r t => r = .bool false ∧ ∃ k : Nat, k ≤ (E i).sl ∧ t = .int .i64 (k : Int) ∧ ∀ j, j < k → 0 ≤ SZ j ∧ SZ j < ll) (fun _ t => (E i).sl - (intOf t).toNat)
                case atStart => exact ⟨rfl, 0, Nat.zero_le _, rfl, fun j hj => by omega⟩
                case round =>
                  obtain ⟨rfl, k, hk, rfl, hj⟩ := hrel
                  have HJ : Hid (∀ j, j < k → 0 ≤ SZ j ∧ SZ j < ll) := hj
                  clear hj
                  by_cases hkl : k < (E i).sl
                  · have ha2 := hsn.row.ad (by omega)
                    rw [ha2] at c2
                    have cs := hsn.at k hkl
                    have hsb := bounds_i64 (hsn.ok k hkl)
                    clear ha2 hsn h3
                    by_cases s1 : SZ k < 0
                    · go_wp2_with fail
                      go_ret
                      exact ⟨rfl, HB3.out⟩
                    · by_cases s2 : SZ k < ll
                      · go_wp2_with fail
                        go_round
                        case rel =>
                          have HR : ∀ j, j < k + 1 → 0 ≤ SZ j ∧ SZ j < ll := fun j hj => by
                            by_cases e : j = k
                            · subst e; omega
                            · exact HJ.out j (by omega)
                          first
                            | exact ⟨rfl, k + 1, by omega, by go_num, HR⟩
                            | ((repeat apply Exists.intro); exact ⟨⟨rfl, k + 1, by omega, by go_num, HR⟩, rfl⟩)
                        case measure => simp [intOf]; omega
                      · go_wp2_with fail
                        go_ret
                        exact ⟨rfl, HB3.out⟩
                  · have HS : Hid (SndOk wc ll (E i)) := ⟨sb, so, SZ, hsn, fun j hj => HJ.out j (by omega)⟩
                    clear hsn h3
                    go_wp2_with fail
                    go_round
                    case rel =>
                      have HR : ∀ m, m < i + 1 → (0 ≤ (E m).kind ∧ (E m).kind ≤ 3) ∧ SndOk wc ll (E m) := fun m hm => by
                        by_cases e : m = i
                        · subst e; exact ⟨by omega, HS.out⟩
                        · exact HG.out m (by omega)
                      first
                        | exact ⟨rfl, i + 1, by omega, by go_num, HR⟩
                        | ((repeat apply Exists.intro); exact ⟨⟨rfl, i + 1, by omega, by go_num, HR⟩, rfl⟩)
                    case measure => simp [intOf]; omega
            · obtain rfl : i = ll := by omega
              go_wp2_with fail
              refine (toTrace_any pa pl pc ao i cap b off E wc h3 (by omega) HCL.out).mono ?_
              rintro e w7 ⟨T, vo, vc, B, K, rfl, hT, hb7⟩
              have h6 := h3.below hb7
              have hZ6 := hZ3.below hb7
              have HB6 : Hid (Below w1.heap.size w1 w7) := HB3.out.trans (hb7.mono hbs3)
              have hbs6 : w1.heap.size ≤ w7.heap.size := by have := hb7.size; omega
              have HG6 : Hid (∀ m, m < i → (0 ≤ (E m).kind ∧ (E m).kind ≤ 3) ∧ SndOk w7 i (E m)) := fun m hm => ⟨(HG.out m hm).1, (HG.out m hm).2.below hb7⟩
              clear h3 hZ3 hb7 HB3 HG
              go_wp2_with fail
              refine (zzreaders_any T pa pl pc vo i vc B E K w7 hT (by omega) (fun m hm => (HG6.out m hm).2)).mono ?_
              rintro e w8 ⟨Gr, R, rfl, hR8, hb8⟩
              have h7 := h6.below hb8
              have hZ7 := hZ6.below hb8
              have hT7 : TrAt w8 T pa pl pc vo i vc B E K := ⟨by have := hT.lt; have := hb8.size; omega, (hb8.cell (p := ⟨T, 0, none⟩) hT.lt).trans hT.c0, (hb8.cell (p := ⟨T, 1, none⟩) hT.lt).trans hT.c1, hT.row.below hb8, hT.clk⟩
              have HB7 : Hid (Below w1.heap.size w1 w8) := HB6.out.trans (hb8.mono hbs6)
              have hbs7 : w1.heap.size ≤ w8.heap.size := by have := hb8.size; omega
              clear h6 hZ6 hb8 HB6 hT
              go_wp2_with fail
              refine (zzbyProc_any T pa pl pc vo i vc B E K la' lc' lb' lo' Z (some ⟨Gr, 0, none⟩) i Gr 0 R w8 hT7 hZ7 hR8 (by omega) (by omega) HPR.out (fun j hj => (h7.ok j hj).kind)).mono ?_
              rintro e w9 ⟨G, rfl, hG1, hG2, hTl, hb9⟩
              have HB8 : Hid (Below w1.heap.size w1 w9) := HB7.out.trans (hb9.mono hbs7)
              have hbs8 : w1.heap.size ≤ w9.heap.size := by have := hb9.size; omega
              have HSUM : Hid (sumEv (run E Z R i) pl = i) := sum_run HPR.out i (Nat.le_refl _)
              have HPA : Hid (∀ p, (run E Z R i p).lo + (run E Z R i p).se + (run E Z R i p).re = (run E Z R i p).ev) := fun p => parts_run (fun m hm => (HG6.out m hm).1) p i (Nat.le_refl _)
              clear h7 hZ7 hR8 hT7 hb9 HB7 HG6 hG1
              go_wp2_with fail
              go_loopw [6, 13, 14] (fun r s t ws => r = .bool false ∧ ∃ p : Nat, p ≤ pl ∧ s = .int .i64 (sumEv (run E Z R i) p : Int) ∧ t = .int .i64 (p : Int) ∧ Below w9.heap.size w9 ws) (fun _ _ t _ => pl - (intOf t).toNat)
              case atStart => exact ⟨rfl, 0, Nat.zero_le _, rfl, rfl, Below.refl _ _⟩
              case round => as_aux_lemma =>
                obtain ⟨rfl, p, hp, rfl, rfl, hbr⟩ := hrel
                by_cases hlt3 : p < pl
                · have hT9 := hTl.below hbr hG2
                  have hle := (run_le E Z R p i)
                  have hpa := HPA.out p
                  have hsm : sumEv (run E Z R i) p ≤ p * i := sum_le (fun p => (run_le E Z R p i).1) p
                  have hsm2 : p * i ≤ 65536 * 65536 := Nat.mul_le_mul (by omega) (by omega)
                  have f0 : wr.cell? ⟨G, p * 6, none⟩ = some (.int .i64 ((run E Z R i p).ev : Int)) := hT9.cell p hlt3 0 _ rfl
                  have f1 := hT9.cell p hlt3 1 _ rfl
                  have f2 := hT9.cell p hlt3 2 _ rfl
                  have f3 := hT9.cell p hlt3 3 _ rfl
                  have HS1 : Hid (sumEv (run E Z R i) (p + 1) = sumEv (run E Z R i) p + (run E Z R i p).ev) := rfl
                  generalize run E Z R i p = t at *
                  obtain ⟨x, hx⟩ : ∃ x, x = sumEv (run E Z R i) p := ⟨_, rfl⟩
                  rw [← hx] at hsm HS1 ⊢
                  have HBR : Hid (Below w9.heap.size w9 wr) := hbr
                  have hpi : (t.lo : Int) + (t.se : Int) + (t.re : Int) = (t.ev : Int) := by omega
                  clear hT9 hTl hbr hpa hx
                  go_wp2_with fail
                  go_region
                  go_wp2_with fail
                  go_roundw
                  case rel => exact ⟨rfl, p + 1, by omega, by rw [HS1.out]; go_num, by go_num, HBR.out.drew⟩
                  case measure => simp [intOf]; omega
                · obtain rfl : p = pl := by omega
                  rw [HSUM.out]
                  go_wp2_with fail
                  go_ret
                  exact ⟨by simp, HB8.out.trans (hbr.mono hbs8)⟩
    · go_wp2_with fail
      go_ret
      exact ⟨rfl, hb2⟩
end Go.Proofs.Qxb6606440a
