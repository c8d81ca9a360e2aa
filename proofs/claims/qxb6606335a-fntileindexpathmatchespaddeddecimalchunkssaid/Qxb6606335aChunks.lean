/-
  zzPaddedDecimalChunks (function 8) computes 'chunks' of the padded decimal text.
-/
import Derived.Test.Qxb6606335aDigits
import Derived.Deep.RegionHeld3
import Derived.Deep.AppendLies
namespace Go.Proofs.Qxb6606335a
open Go.RowKit

def chunks : List UInt8 → List UInt8
  | [a, b, c] => [a, b, c]
  | a :: b :: c :: rest => 120 :: a :: b :: c :: 47 :: chunks rest
  | _ => []

def padOf (l : Nat) : Nat := (3 - l % 3) % 3
def padded (n : Nat) : List UInt8 := List.replicate (padOf (dec n).length) 48 ++ dec n

theorem dec_length (n : Nat) : 0 < (dec n).length ∧ (dec n).length ≤ 19 := by
  unfold dec
  by_cases h : n = 0
  · simp [h]
  · have := rdig_length 19 n
    rw [if_neg h, rdig_pos (f := 18) (by omega)] at *
    simp only [List.length_reverse, List.length_cons] at *
    omega

/-- append of the bytes M, as a step of a region that draws its order -/
theorem step_push {w : World} {ops : Array Oper} {o : Oper} {a : Act} {K : Act → World → Prop} {Q : Exit → Act → World → Prop} {E : Prop} (hgd : o.guard = none) (s x : Operand)
    (ho : o.op = .call { callee := .builtin .append, args := #[s, x], argTypes := #[28, 28] }) (B : Nat) (v : Value) (L M R : List UInt8) (hR : R = L ++ M) (hs : a.eval s = v) (hown : Own B v L w)
    (ad : Addr) (m c : Nat) (hm : m = M.length) (hx : a.eval x = .slice (some ad) m c) (hnews : ∀ j (hj : j < M.length), w.cell? (ad.add j) = some (.int .u8 (M[j].toNat : Int)))
    (hlen : R.length ≤ 1000000) (hpos : 0 < R.length) (hB : B ≤ w.heap.size)
    (h : ∀ g cap w', Own B (.slice (some ⟨g, 0, none⟩) R.length cap) R w' → B ≤ g → g < w'.heap.size → Below B w w' → K (a.put o.dst (.slice (some ⟨g, 0, none⟩) R.length cap)) w') :
    if Region.wanted o (yielded ops a.tmps) = true then Oper.wp Try.prog o a w K Q else E := by
  subst hm hR
  have hw : Region.wanted o (yielded ops a.tmps) = true := by simp [Region.wanted, hgd]
  rw [if_pos hw]
  obtain ⟨i0, hi, hz0, hz1, hz2⟩ := info_parts info5
  have hlen' : L.length + M.length ≤ 1000000 := by simpa using hlen
  refine wp_append_own w s x 28 ho B 5 i0 (.int .u8 0) 1 1 Try.underlying28 hi hz0 hz1 hz2 rfl (by decide) v L.length (vals L) hs hown ad M.length c (vals M) hx (by simp [vals_length]) (fun j u hj => ?_) (vals_one M) (by unfold maxLen; omega) (by omega) hB (fun v' w' h1 h2 _ => ?_)
  · have hj' : j < M.length := by have := (List.getElem?_eq_some_iff.1 hj).1; simpa [vals_length] using this
    rw [hnews j hj', ← hj, vals_get M j hj']
  · rw [← vals_append, ← List.length_append] at h1
    obtain ⟨g, cap, rfl, hg1, hg2⟩ := Own.form h1 hpos
    exact h g cap w' h1 hg1 hg2 ((Below.refl B w).grown h2 hB (fun k hk => (hown.lt k hk).1))

theorem new_three (w : World) (a b c : UInt8) (t : TypeId) : ∀ j (hj : j < [a, b, c].length), (w.alloc (.cells #[.int .u8 (a.toNat : Int), .int .u8 (b.toNat : Int), .int .u8 (c.toNat : Int)] t)).drew.cell? ((⟨w.heap.size, 0, none⟩ : Addr).add j) = some (.int .u8 ([a, b, c][j].toNat : Int)) := by
  intro j hj
  have := World.news_of_block (w := (w.alloc (.cells #[.int .u8 (a.toNat : Int), .int .u8 (b.toNat : Int), .int .u8 (c.toNat : Int)] t)).drew) (B := w.heap.size) (cs := #[.int .u8 (a.toNat : Int), .int .u8 (b.toNat : Int), .int .u8 (c.toNat : Int)]) (t := t) (fr := (0, 0)) (heap_alloc_new w _) j (.int .u8 ([a, b, c][j].toNat : Int))
  apply this
  match j, hj with
  | 0, _ => rfl
  | 1, _ => rfl
  | 2, _ => rfl
theorem Own.drew {B : Nat} {v : Value} {L : List UInt8} {w : World} (h : Own B v L w) : Own B v L w.drew := h

theorem drop_three (P : List UInt8) (i : Nat) (h : i + 3 ≤ P.length) : P.drop i = P[i]'(by omega) :: P[i + 1]'(by omega) :: P[i + 2]'(by omega) :: P.drop (i + 3) := by
  rw [List.drop_eq_getElem_cons (by omega), List.drop_eq_getElem_cons (by omega), List.drop_eq_getElem_cons (by omega)]
theorem chunks_last (P : List UInt8) (i : Nat) (_h : i + 3 ≤ P.length) (hl : i + 3 = P.length) : chunks (P[i]'(by omega) :: P[i + 1]'(by omega) :: P[i + 2]'(by omega) :: P.drop (i + 3)) = [P[i]'(by omega), P[i + 1]'(by omega), P[i + 2]'(by omega)] := by
  rw [List.drop_of_length_le (by omega)]; rfl
theorem chunks_more (a b c : UInt8) (r : List UInt8) (h : 0 < r.length) : chunks (a :: b :: c :: r) = 120 :: a :: b :: c :: 47 :: chunks r := by
  cases r with
  | nil => simp at h
  | cons x r => rfl

set_option maxHeartbeats 2000000 in
theorem chunks_any (n : Nat) (w : World) (hn : n ≤ 9223372036854775807) :
    Calls Try.prog 8 #[.int .i64 (n : Int)] w fun e w' => e = .returned (.string ⟨(chunks (padded n)).toArray⟩) ∧ Below w.heap.size w w' := by
  obtain ⟨i0, hi, hz0, hz1, hz2⟩ := info_parts info5
  obtain ⟨hd0, hd19⟩ := dec_length n
  obtain ⟨d, hd⟩ : ∃ d, d = dec n := ⟨_, rfl⟩
  obtain ⟨pad, hpad⟩ : ∃ pad, pad = padOf d.length := ⟨_, rfl⟩
  have HD : Hid (d = dec n) := hd
  have HP : Hid (pad = padOf d.length) := hpad
  rw [← hd] at hd0 hd19
  have hpi : (3 - (d.length : Int) % 3) % 3 = (pad : Int) := by rw [hpad]; unfold padOf; omega
  have hp2 : pad ≤ 2 := by rw [hpad]; unfold padOf; omega
  clear hd hpad
  go_enter Try.func8, Try.ntmps8
  go_wp2_with fail
  refine (digits_any n w hn).mono ?_
  rintro e w1 ⟨v, rfl, hown, hb⟩
  rw [← HD.out] at hown
  obtain ⟨g, cap, rfl, hg1, hg2⟩ := hown.form hd0
  have hbs := hb.size
  have hb' : Hid (Below w.heap.size w w1) := hb
  clear hb
  go_wp2_with (at_make; refine wpList_make_own _ rfl _ _ 28 rfl w1.heap.size 5 i0 (.int .u8 0) 1 Try.underlying28 hi hz0 hz1 .i64 .i64 _ (pad + d.length) rfl rfl ?c1 (by rw [hz2]; omega) (by unfold maxLen; omega) (Nat.le_refl _) ?_)
  case c1 => push_cast; omega
  intro w2 hown2 hgrow2
  have hb2 : Hid (Below w.heap.size w w2) := hb'.out.grown hgrow2 hbs (fun _ h => by cases h)
  have hownd : Own w.heap.size (.slice (some ⟨g, 0, none⟩) d.length cap) d w2 := hown.below ((Below.refl w1.heap.size w1).grown hgrow2 (Nat.le_refl _) (fun _ h => by cases h)) hg2
  have hownp : Own w1.heap.size (.slice (some ⟨w1.heap.size, 0, none⟩) 0 (pad + d.length)) [] w2 := hown2
  have hsz2 : w1.heap.size ≤ w2.heap.size := hgrow2.size
  clear hown hown2 hgrow2 hb'
  generalize w1.heap.size = B1 at *
  go_wp2_with fail
  go_loopw [5, 6] (fun v t wr => ∃ j : Nat, j ≤ pad ∧ t = .int .i64 (j : Int) ∧ Own B1 v (List.replicate j 48) wr ∧ Own w.heap.size (.slice (some ⟨g, 0, none⟩) d.length cap) d wr ∧ B1 ≤ wr.heap.size ∧ Below w.heap.size w wr) (fun _ t _ => pad - (intOf t).toNat)
  case atStart => exact ⟨0, Nat.zero_le _, rfl, hownp, hownd, hsz2, hb2.out⟩
  case round =>
    obtain ⟨j, hj, rfl, hop, hod, hs1, hbr⟩ := hrel
    have hbr' : Hid (Below w.heap.size w wr) := hbr
    have hws := hbr.size
    clear hbr hb2 hownp hownd hsz2
    by_cases hjp : j < pad
    · go_wp2_with (at_builtin; refine wpList_push rfl _ _ rfl B1 _ (List.replicate j 48) [48] (List.replicate (j + 1) 48) (List.replicate_succ') rfl (hop.alloc _) ⟨wr.heap.size, 0, none⟩ 1 1 rfl rfl ?c1 ?c2 ?c3 ?c4 ?_)
      case c1 => exact new_one wr 48 48 rfl _
      case c2 => simp; omega
      case c3 => simp
      case c4 => simp; omega
      intro g1 cap1 w3 hown3 hg31 hg32 hb3
      have hb4 : Hid (Below w.heap.size w w3) := (hbr'.out.alloc hws _).trans (hb3.mono (by omega))
      have hod3 := (hod.alloc (.cells #[.int .u8 48] 5)).below hb3 hg2
      have hs3 : B1 ≤ w3.heap.size := by have := hb3.size; simp at this; omega
      clear hb3 hbr' hod hop
      go_wp2_with fail
      go_roundw
      case rel =>
        refine ⟨j + 1, by omega, by go_num, ?_, hod3, hs3, hb4.out⟩
        exact hown3
      case measure => simp [intOf]; omega
    · obtain rfl : j = pad := by omega
      obtain ⟨P, hP⟩ : ∃ P, P = List.replicate j 48 ++ d := ⟨_, rfl⟩
      have HPP : Hid (P = padded n) := by
        show P = _
        rw [hP, padded, ← HD.out, ← HP.out]
      have hP3 : ∃ t, P.length = 3 * t := ⟨(j + d.length) / 3, by rw [hP]; simp; omega⟩
      have hP21 : P.length ≤ 21 := by rw [hP]; simp; omega
      have hP0 : 0 < P.length := by rw [hP]; simp; omega
      have HPd : Hid (P = List.replicate j 48 ++ d) := hP
      clear hP
      go_wp2_with (at_builtin; refine wpList_push rfl _ _ rfl B1 _ (List.replicate j 48) d P HPd rfl hop ⟨g, 0, none⟩ d.length cap rfl rfl ?d1 ?d2 ?d3 ?d4 ?_)
      case d1 => intro i hi; rw [Addr.add_lit, Nat.zero_add]; exact hod.cell i hi
      case d2 => omega
      case d3 => exact hP0
      case d4 => exact hs1
      intro gp capp w3 hownP hgp1 hgp2 hb3
      have hb4 : Hid (Below w.heap.size w w3) := hbr'.out.trans (hb3.mono (by omega))
      have hs3 : w.heap.size ≤ w3.heap.size := by have := hb3.size; omega
      clear hb3 hbr' hod hop hs1 hws
      go_wp2_with fail
      have hlt3 : w3.heap.size ≤ w3.heap.size := Nat.le_refl _
      obtain ⟨B2, hB2⟩ : ∃ B2, B2 = w3.heap.size := ⟨_, rfl⟩
      rw [← hB2] at hgp2 hs3
      have hB2' : B2 ≤ w3.heap.size := by omega
      clear hlt3 hB2
      go_loopw [7, 8] (fun v t ws => ∃ (i q : Nat) (O : List UInt8), i = 3 * q ∧ i ≤ P.length ∧ t = .int .i64 (i : Int) ∧ Own B2 v O ws ∧ O.length ≤ 5 * q ∧ (i < P.length ∨ 0 < O.length) ∧ O ++ chunks (P.drop i) = chunks P ∧ Own B1 (.slice (some ⟨gp, 0, none⟩) P.length capp) P ws ∧ B2 ≤ ws.heap.size ∧ Below w.heap.size w ws) (fun _ t _ => P.length - (intOf t).toNat)
      case atStart => exact ⟨0, 0, [], rfl, Nat.zero_le _, rfl, World.ownsRow_nil _ _ _ _, by simp, .inl hP0, by simp, hownP, hB2', hb4.out⟩
      case round =>
        obtain ⟨i, q, O, hiq, hil, rfl, hO, hOl, hne, htx, hPw, hs4, hbw⟩ := hrel
        obtain ⟨t, ht⟩ := hP3
        have HIQ : Hid (i = 3 * q) := hiq
        have HT : Hid (P.length = 3 * t) := ht
        have HTX : Hid (O ++ chunks (P.drop i) = chunks P) := htx
        have HBW : Hid (Below w.heap.size w wr) := hbw
        have hq7 : q ≤ 7 := by omega
        have hbws := hbw.size
        clear htx hbw hownP hb4
        by_cases hi : i < P.length
        · have hi3 : i + 3 ≤ P.length := by omega
          clear ht hiq
          have hc0 := hPw.cell i (by omega)
          have hc1 := hPw.cell (i + 1) (by omega)
          have hc2 := hPw.cell (i + 2) (by omega)
          by_cases hlast : i + 3 = P.length
          · have hbq : ((i : Int) + 3 == (P.length : Int)) = true := by simp; omega
            have HLA : Hid (i + 3 = P.length) := hlast
            clear hlast hc0 hc1 hc2
            have hc0 := hPw.cell i (by omega)
            have hc1 := hPw.cell (i + 1) (by omega)
            have hc2 := hPw.cell (i + 2) (by omega)
            have hi0 : (0 : Int) ≤ (i : Int) := Int.natCast_nonneg _
            have hii : (i : Int) < (P.length : Int) := by omega
            have hi1 : (i : Int) + 1 < (P.length : Int) := by omega
            have hi2 : (i : Int) + 2 < (P.length : Int) := by omega
            have hi10 : (0 : Int) ≤ (i : Int) + 1 := by omega
            have hi20 : (0 : Int) ≤ (i : Int) + 2 := by omega
            have hw1 : IntKind.i64.wrap ((i : Int) + 1) = (i : Int) + 1 := IntWalk.i64_in _ (by omega)
            have hw2 : IntKind.i64.wrap ((i : Int) + 2) = (i : Int) + 2 := IntWalk.i64_in _ (by omega)
            have ht1 : ((i : Int) + 1).toNat = i + 1 := by omega
            have ht2 : ((i : Int) + 2).toNat = i + 2 := by omega
            go_wp2_with fail
            go_region_held3 (fun w' => w'.cell? ⟨gp, i, none⟩ = some (.int .u8 ((P[i]'(by omega)).toNat : Int)) ∧ w'.cell? ⟨gp, i + 1, none⟩ = some (.int .u8 ((P[i + 1]'(by omega)).toNat : Int)) ∧ w'.cell? ⟨gp, i + 2, none⟩ = some (.int .u8 ((P[i + 2]'(by omega)).toNat : Int)))
              (first | go_keep | (go_split_ands; refine ⟨?_, ?_, ?_⟩ <;> (rw [hb6.cell (by exact hgp2)]; assumption)))
              ((refine step_push (by rfl) _ _ (by rfl) B2 _ (O) [P[i]'(by omega), P[i + 1]'(by omega), P[i + 2]'(by omega)] (O ++ [P[i]'(by omega), P[i + 1]'(by omega), P[i + 2]'(by omega)]) (by simp) (by rfl) (hO.alloc _) ⟨wr.heap.size, 0, none⟩ 3 3 (by rfl) (by rfl) (new_three wr _ _ _ _) (by simp; omega) (by simp) (by simp; omega) ?_; intro g6 cap6 w6 hO6 hg61 hg62 hb6))
            rw [show (O ++ [P[i]'(by omega), P[i + 1]'(by omega), P[i + 2]'(by omega)]).length = O.length + 3 from by simp] at hO6
            have HB6 : Hid (Below w.heap.size w w6) := (HBW.out.alloc hbws _).drew.trans (hb6.mono (by omega))
            have hP6 := (Own.drew (hPw.alloc _)).below hb6 hgp2
            have hs6 : B2 ≤ w6.heap.size := by have := hb6.size; simp at this; omega
            have HX : Hid (Own B2 (.slice (some ⟨g6, 0, none⟩) (O.length + 3) cap6) (O ++ [P[i]'(by omega), P[i + 1]'(by omega), P[i + 2]'(by omega)]) w6) := hO6
            clear hb6 hO6 hO hPw hc0 hc1 hc2 HBW
            go_wp2_with fail
            go_roundw
            case rel =>
              refine ⟨i + 3, q + 1, _, by have := HIQ.out; omega, hi3, by go_num, HX.out, by simp; omega, .inr (by simp), ?_, hP6, hs6, HB6.out⟩
              rw [← HTX.out, drop_three P i hi3, chunks_last P i hi3 HLA.out, List.drop_of_length_le (by have := HLA.out; omega)]
              simp [chunks]
            case measure => simp [intOf]; omega
          · have hlt : i + 3 < P.length := by omega
            have hbq : ((i : Int) + 3 == (P.length : Int)) = false := by simp; omega
            clear hlast
            go_wp2_with (at_builtin; refine wpList_push rfl _ _ rfl B2 _ O [120] (O ++ [120]) rfl rfl (hO.alloc _) ⟨wr.heap.size, 0, none⟩ 1 1 rfl rfl ?e1 ?e2 ?e3 ?e4 ?_)
            case e1 => exact new_one wr 120 120 rfl _
            case e2 => simp; omega
            case e3 => simp
            case e4 => simp; omega
            intro g5 cap5 w5 hO5 hg51 hg52 hb5
            have HB5 : Hid (Below w.heap.size w w5) := (HBW.out.alloc hbws _).trans (hb5.mono (by omega))
            have hP5 := (hPw.alloc (.cells #[.int .u8 120] 5)).below hb5 hgp2
            have hs5 : B2 ≤ w5.heap.size := by have := hb5.size; simp at this; omega
            have hw5 : w.heap.size ≤ w5.heap.size := by omega
            clear hb5 hO hPw hc0 hc1 hc2 HBW
            have hc0 := hP5.cell i (by omega)
            have hc1 := hP5.cell (i + 1) (by omega)
            have hc2 := hP5.cell (i + 2) (by omega)
            have hi0 : (0 : Int) ≤ (i : Int) := Int.natCast_nonneg _
            have hii : (i : Int) < (P.length : Int) := by omega
            have hi1 : (i : Int) + 1 < (P.length : Int) := by omega
            have hi2 : (i : Int) + 2 < (P.length : Int) := by omega
            have hi10 : (0 : Int) ≤ (i : Int) + 1 := by omega
            have hi20 : (0 : Int) ≤ (i : Int) + 2 := by omega
            have hw1 : IntKind.i64.wrap ((i : Int) + 1) = (i : Int) + 1 := IntWalk.i64_in _ (by omega)
            have hw2 : IntKind.i64.wrap ((i : Int) + 2) = (i : Int) + 2 := IntWalk.i64_in _ (by omega)
            have ht1 : ((i : Int) + 1).toNat = i + 1 := by omega
            have ht2 : ((i : Int) + 2).toNat = i + 2 := by omega
            go_wp2_with fail
            go_region_held3 (fun w' => w'.cell? ⟨gp, i, none⟩ = some (.int .u8 ((P[i]'(by omega)).toNat : Int)) ∧ w'.cell? ⟨gp, i + 1, none⟩ = some (.int .u8 ((P[i + 1]'(by omega)).toNat : Int)) ∧ w'.cell? ⟨gp, i + 2, none⟩ = some (.int .u8 ((P[i + 2]'(by omega)).toNat : Int)))
              (first | go_keep | (go_split_ands; refine ⟨?_, ?_, ?_⟩ <;> (rw [hb6.cell (by exact hgp2)]; assumption)))
              ((refine step_push (by rfl) _ _ (by rfl) B2 _ (O ++ [120]) [P[i]'(by omega), P[i + 1]'(by omega), P[i + 2]'(by omega)] (O ++ [120, P[i]'(by omega), P[i + 1]'(by omega), P[i + 2]'(by omega)]) (by simp) (by rfl) (hO5.alloc _) ⟨w5.heap.size, 0, none⟩ 3 3 (by rfl) (by rfl) (new_three w5 _ _ _ _) (by simp; omega) (by simp) (by simp; omega) ?_; intro g6 cap6 w6 hO6 hg61 hg62 hb6))
            rw [show (O ++ [120, P[i]'(by omega), P[i + 1]'(by omega), P[i + 2]'(by omega)]).length = O.length + 4 from by simp] at hO6
            have HB6 : Hid (Below w.heap.size w w6) := (HB5.out.alloc hw5 _).drew.trans (hb6.mono (by omega))
            have hP6 := (Own.drew (hP5.alloc _)).below hb6 hgp2
            have hs6 : B2 ≤ w6.heap.size := by have := hb6.size; simp at this; omega
            have hw6 : w.heap.size ≤ w6.heap.size := by omega
            clear hb6 hO5 hP5 hc0 hc1 hc2 HB5
            go_wp2_with (at_builtin; refine wpList_push rfl _ _ rfl B2 _ _ [47] (O ++ [120, P[i]'(by omega), P[i + 1]'(by omega), P[i + 2]'(by omega), 47]) ?f0 rfl (hO6.alloc _) ⟨w6.heap.size, 0, none⟩ 1 1 rfl rfl ?f1 ?f2 ?f3 ?f4 ?_)
            case f0 => simp
            case f1 => exact new_one w6 47 47 rfl _
            case f2 => simp; omega
            case f3 => simp
            case f4 => simp; omega
            intro g7 cap7 w7 hO7 hg71 hg72 hb7
            have HB7 : Hid (Below w.heap.size w w7) := (HB6.out.alloc hw6 _).trans (hb7.mono (by omega))
            have hP7 := (hP6.alloc _).below hb7 hgp2
            have hs7 : B2 ≤ w7.heap.size := by have := hb7.size; simp at this; omega
            have HX : Hid (Own B2 (.slice (some ⟨g7, 0, none⟩) (O.length + 5) cap7) (O ++ [120, P[i]'(by omega), P[i + 1]'(by omega), P[i + 2]'(by omega), 47]) w7) := hO7
            clear hb7 hO7 hP6 hO6 HB6
            go_wp2_with fail
            go_roundw
            case rel =>
              refine ⟨i + 3, q + 1, _, by have := HIQ.out; omega, hi3, by go_num, HX.out, by simp; omega, .inr (by simp), ?_, hP7, hs7, HB7.out⟩
              rw [← HTX.out, drop_three P i hi3, chunks_more _ _ _ _ (by simp; omega)]
              simp
            case measure => simp [intOf]; omega
        · obtain rfl : i = P.length := by omega
          have hO0 : 0 < O.length := by omega
          obtain ⟨g7, cap7, rfl, hg71, hg72⟩ := hO.form hO0
          have e1 : O = chunks (padded n) := by
            have := HTX.out
            rw [List.drop_length] at this
            rw [← HPP.out, ← this]; simp [chunks]
          have hcv := run_convert_bytes_back (P := Try.prog) wr 28 9 5 ⟨g7, 0, none⟩ cap7 O Try.underlying28 Try.underlying5 Try.underlying9 (fun j hj => by
            rw [Addr.add_lit, Nat.zero_add]; exact hO.cell j hj)
          have HE : Hid (O = chunks (padded n)) := e1
          clear e1 hO hPw
          go_wp2_with fail
          go_ret
          rw [← HE.out]
          exact ⟨rfl, HBW.out⟩
end Go.Proofs.Qxb6606335a
