/-
  FnHexRunsSplitAtNonHexAndCount (function 3) says yes.
-/
import Derived.Test.Qxb6605461aAll
import Derived.Laws.Concat
import Derived.WalkLawsBesides
namespace Go.Proofs.Qxb6605461a
open Go.RowKit

theorem Shape.below {w w' : World} {o : Option Addr} {L : List (List UInt8)} (h : Shape w o L) (hb : Below w.heap.size w w') : Shape w' o L := by
  refine ⟨fun j hj => ?_, h.nil⟩
  obtain ⟨g, h1, h2, h3⟩ := h.cell j hj
  exact ⟨g, h1, Nat.lt_of_lt_of_le h2 hb.size, (hb.cell (p := ⟨g, j, none⟩) h2).trans h3⟩
def cat (s t : ByteArray) : ByteArray := (s ++ ⟨#[47]⟩) ++ t
theorem cat_runs (s t : ByteArray) : runs (cat s t).data.toList = runs s.data.toList ++ runs t.data.toList := by
  have : (cat s t).data.toList = s.data.toList ++ (47 : UInt8) :: t.data.toList := by
    simp [cat]
  rw [this]
  exact runs_split _ 47 (by decide) _ _

set_option maxHeartbeats 4000000 in
set_option maxRecDepth 20000 in
theorem main_any (s t : ByteArray) (w : World) (hs : s.size ≤ maxLen) (ht : t.size ≤ maxLen) : Calls Try.prog 3 #[.string s, .string t] w fun e w' => e = .returned (.bool true) ∧ Below w.heap.size w w' := by
  go_enter Try.func3, Try.ntmps3
  go_wp2_with fail
  refine (guard_any s t w hs ht).mono ?_
  rintro e w1 ⟨r, rfl, rfl⟩
  unfold maxLen at hs ht
  cases r with
  | false =>
    go_wp2_with fail
    go_ret
    exact ⟨rfl, Below.refl _ _⟩
  | true =>
    by_cases h1 : 524288 < s.size
    · go_wp2_with fail
      go_ret
      exact ⟨rfl, Below.refl _ _⟩
    · by_cases h2 : 524288 < t.size
      · go_wp2_with fail
        go_ret
        exact ⟨rfl, Below.refl _ _⟩
      · go_wp2_with fail
        refine (zzruns_any (cat s t) _ (by simp [cat, ByteArray.size_append]; show s.size + 1 + t.size ≤ _; omega)).mono ?_
        rintro e w2 ⟨v, rfl, hown, hb⟩
        rw [cat_runs] at hown
        obtain ⟨ow, cw, rfl, hSW⟩ := hown.shape
        obtain ⟨A, hA⟩ : ∃ A, A = runs s.data.toList := ⟨_, rfl⟩
        obtain ⟨B, hB⟩ : ∃ B, B = runs t.data.toList := ⟨_, rfl⟩
        rw [← hA, ← hB] at hSW ⊢
        have HSW : Hid (Shape w2 ow (A ++ B)) := hSW
        have HA : Hid (A = runs s.data.toList) := hA
        have HB : Hid (B = runs t.data.toList) := hB
        have HBL : Hid (Below w1.heap.size w1 w2) := hb
        have hbs := hb.size
        have hls : Hid (s.data.toList.length = s.size) := by show _ = _; cases s; simp [ByteArray.size]
        have hlt : Hid (t.data.toList.length = t.size) := by show _ = _; cases t; simp [ByteArray.size]
        have hAl : A.length ≤ 524289 := by rw [hA]; have := runs_count_le s.data.toList []; have := hls.out; unfold runs; omega
        have hBl : B.length ≤ 524289 := by rw [hB]; have := runs_count_le t.data.toList []; have := hlt.out; unfold runs; omega
        rw [List.length_append]
        clear hown hSW hA hB hb
        go_wp2_with fail
        refine (zzruns_any s _ (by omega)).mono ?_
        rintro e w3 ⟨v, rfl, hown, hb⟩
        rw [← HA.out] at hown
        obtain ⟨oa, ca, rfl, hSA⟩ := hown.shape
        have HSA : Hid (Shape w3 oa A) := hSA
        have HSW2 : Hid (Shape w3 ow (A ++ B)) := HSW.out.below hb
        have HBL2 : Hid (Below w1.heap.size w1 w3) := HBL.out.trans (hb.mono hbs)
        have hbs2 := HBL2.out.size
        clear hown hSA hb
        go_wp2_with fail
        refine (zzruns_any t _ (by omega)).mono ?_
        rintro e w4 ⟨v, rfl, hown, hb⟩
        rw [← HB.out] at hown
        obtain ⟨ob, cb, rfl, hSB⟩ := hown.shape
        have HSB3 : Hid (Shape w4 ob B) := hSB
        have HSA3 : Hid (Shape w4 oa A) := HSA.out.below hb
        have HSW3 : Hid (Shape w4 ow (A ++ B)) := HSW2.out.below hb
        have HBL3 : Hid (Below w1.heap.size w1 w4) := HBL2.out.trans (hb.mono hbs2)
        have hbs3 := HBL3.out.size
        clear hown hSB hb HSW HSW2 HSA HBL HBL2 hbs hbs2
        have hq : (binOp .eql 23 (.slice ow (A.length + B.length) cw) (.slice none 0 0)).run Try.prog w4 = .ok (.bool (((A.length + B.length : Nat) : Int) == 0)) w4 := by
          rw [Lib.run_eql_slice_nil w4 23 9 ow _ _ _ _ Try.underlying23]
          by_cases h0 : A.length + B.length = 0
          · rw [HSW3.out.nil (by simpa using h0), h0]; rfl
          · obtain ⟨g, hg, _⟩ := HSW3.out.cell 0 (by simp; omega)
            rw [hg]
            congr 2
            simp; omega
        go_wp2_with fail
        clear hq
        go_loopw [4, 8] (fun tr ti wr => tr = .bool false ∧ ∃ i : Nat, i ≤ A.length ∧ ti = .int .i64 (i : Int) ∧ Below w4.heap.size w4 wr) (fun _ ti _ => A.length - (intOf ti).toNat)
        case atStart => exact ⟨rfl, 0, by omega, rfl, Below.refl _ _⟩
        case round =>
          obtain ⟨rfl, i, hi, rfl, hb5⟩ := hrel
          by_cases hlt5 : i < A.length
          · obtain ⟨ga, hga, hgal, hca⟩ := (HSA3.out.below hb5).cell i hlt5
            obtain ⟨gw, hgw, hgwl, hcw⟩ := (HSW3.out.below hb5).cell i (by simp; omega)
            rw [List.getElem_append_left hlt5] at hcw
            subst hga hgw
            generalize str (A[i]'hlt5) = b at *
            have HB5 : Hid (Below w4.heap.size w4 wr) := hb5
            clear hb5
            go_wp2_with fail
            go_region
            go_wp2_with fail
            go_roundw
            case rel => exact ⟨rfl, i + 1, by omega, by go_num, HB5.out.drew⟩
            case measure => simp [intOf]; omega
          · obtain rfl : i = A.length := by omega
            have HSA5 : Hid (Shape wr oa A) := HSA3.out.below hb5
            have HSB5 : Hid (Shape wr ob B) := HSB3.out.below hb5
            have HSW5 : Hid (Shape wr ow (A ++ B)) := HSW3.out.below hb5
            have HBL5 : Hid (Below w1.heap.size w1 wr) := HBL3.out.trans (hb5.mono hbs3)
            have hbs5 := HBL5.out.size
            clear HSA3 HSB3 HSW3 HBL3 hbs3 hb5
            generalize wr = w5 at *
            go_wp2_with fail
            go_loopw [4, 9] (fun tr ti wr => tr = .bool false ∧ ∃ j : Nat, j ≤ B.length ∧ ti = .int .i64 (j : Int) ∧ Below w5.heap.size w5 wr) (fun _ ti _ => B.length - (intOf ti).toNat)
            case atStart => exact ⟨rfl, 0, by omega, rfl, Below.refl _ _⟩
            case round =>
              obtain ⟨rfl, j, hj, rfl, hb6⟩ := hrel
              by_cases hlt6 : j < B.length
              · obtain ⟨gb, hgb, hgbl, hcb⟩ := (HSB5.out.below hb6).cell j hlt6
                obtain ⟨gw, hgw, hgwl, hcw⟩ := (HSW5.out.below hb6).cell (A.length + j) (by simp; omega)
                have hE : (A ++ B)[A.length + j]'(by simp; omega) = B[j]'hlt6 := by
                  rw [List.getElem_append_right (by omega)]
                  congr 1; omega
                rw [hE] at hcw
                clear hE
                subst hgb hgw
                generalize str (B[j]'hlt6) = b at *
                have HB6 : Hid (Below w5.heap.size w5 wr) := hb6
                clear hb6
                go_wp2_with fail
                go_region
                go_wp2_with fail
                go_roundw
                case rel => exact ⟨rfl, j + 1, by omega, by go_num, HB6.out.drew⟩
                case measure => simp [intOf]; omega
              · have HSA6 : Hid (Shape wr oa A) := HSA5.out.below hb6
                have HBL6 : Hid (Below w1.heap.size w1 wr) := HBL5.out.trans (hb6.mono hbs5)
                have hlong : ∀ j (h : j < A.length), LongB (str (A[j]'h)) := fun j h => by
                  have hm : A[j] ∈ runsGo s.data.toList [] := by have := HA.out; unfold runs at this; rw [← this]; exact List.getElem_mem h
                  refine longB_of (runs_long _ _ (fun c hc => by cases hc) _ hm) ?_
                  have := runs_each_le _ _ _ hm
                  rw [hls.out] at this
                  simp at this; omega
                have hcnt : Hid (cntL false s.data.toList = A.length) := by show _ = _; rw [HA.out, cnt_runs]
                go_wp2_with fail
                refine (all_any oa ca A _ HSA6.out (by omega) hlong).mono ?_
                rintro e w7 ⟨rfl, hw⟩
                subst hw
                go_wp2_with fail
                refine (count_any s _ (by omega)).mono ?_
                rintro e w8 ⟨rfl, hw⟩
                subst hw
                rw [hcnt.out]
                go_wp2_with fail
                go_ret
                exact ⟨by simp, HBL6.out⟩
end Go.Proofs.Qxb6605461a
