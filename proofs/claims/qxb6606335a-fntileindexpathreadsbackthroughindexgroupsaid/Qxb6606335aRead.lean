/-
  zzReadTilePath (function 9) computes 'rdL'.
-/
import Derived.Test.Qxb6606335aIg
import Derived.Lib.Strings
namespace Go.Proofs.Qxb6606335a
open Go.RowKit

def big : Nat := 9223372036854775807
/-- what is left of an element behind the test on its 'x' -/
def strip (last : Bool) (cur : List UInt8) : Option (List UInt8) :=
  if last = true then some cur else if cur.length = 4 ∧ cur.head? = some 120 then some cur.tail else none
def step (last : Bool) (g v gr : Nat) : Option Nat :=
  if gr = 0 ∧ last = false ∧ g = 0 then none else if (big - g) / 1000 < v then none else some (v * 1000 + g)
def proc (last : Bool) (cur : List UInt8) (v gr : Nat) : Option Nat := ((strip last cur).bind ig).bind fun g => step last g v gr
def rdL : List UInt8 → List UInt8 → Nat → Nat → Option Nat
  | [], cur, v, gr => proc true cur v gr
  | c :: r, cur, v, gr => if c = 47 then (proc false cur v gr).bind fun v' => rdL r [] v' (gr + 1) else rdL r (cur ++ [c]) v gr

theorem igGo_lt : ∀ (L : List UInt8) (g r k : Nat), g < 10 ^ k → igGo L g = some r → r < 10 ^ (k + L.length)
  | [], g, r, k, hg, h => by simp [igGo] at h; subst h; simpa using hg
  | c :: L, g, r, k, hg, h => by
    unfold igGo at h
    by_cases hd : isD c = true
    · rw [if_pos hd] at h
      have hb : c.toNat ≤ 57 := by simp [isD] at hd; omega
      have := igGo_lt L _ r (k + 1) (by rw [Nat.pow_succ]; omega) h
      rw [show k + (c :: L).length = k + 1 + L.length from by simp; omega]; exact this
    · rw [if_neg hd] at h; cases h
theorem ig_lt {L : List UInt8} {g : Nat} (h : ig L = some g) : g < 1000 := by
  unfold ig at h
  by_cases h3 : L.length = 3
  · rw [if_pos h3] at h
    have := igGo_lt L 0 g 0 (by decide) h
    rw [h3] at this
    exact this
  · rw [if_neg h3] at h; cases h

theorem slash_none {r cur : List UInt8} {v gr : Nat} (h : strip false cur = none) : rdL (47 :: r) cur v gr = none := by simp [rdL, proc, h]
theorem slash_ig {r cur e : List UInt8} {v gr : Nat} (h : strip false cur = some e) (hi : ig e = none) : rdL (47 :: r) cur v gr = none := by simp [rdL, proc, h, hi]
theorem slash_g {r cur e : List UInt8} {v gr g : Nat} (h : strip false cur = some e) (hi : ig e = some g) : rdL (47 :: r) cur v gr = (step false g v gr).bind fun v' => rdL r [] v' (gr + 1) := by simp [rdL, proc, h, hi]
theorem end_ig {cur : List UInt8} {v gr : Nat} (hi : ig cur = none) : rdL [] cur v gr = none := by simp [rdL, proc, strip, hi]
theorem end_g {cur : List UInt8} {v gr g : Nat} (hi : ig cur = some g) : rdL [] cur v gr = step true g v gr := by simp [rdL, proc, strip, hi]
theorem step_first {v : Nat} : step false 0 v 0 = none := by simp [step]
theorem step_over {last : Bool} {g v gr : Nat} (h : (big - g) / 1000 < v) : step last g v gr = none := by
  unfold step
  by_cases h1 : gr = 0 ∧ last = false ∧ g = 0
  · rw [if_pos h1]
  · rw [if_neg h1, if_pos h]
theorem step_ok {last : Bool} {g v gr : Nat} (h1 : ¬ (gr = 0 ∧ last = false ∧ g = 0)) (h : ¬ (big - g) / 1000 < v) : step last g v gr = some (v * 1000 + g) := by
  unfold step
  rw [if_neg h1, if_neg h]
theorem strip_len {cur : List UInt8} (h : ¬ cur.length = 4) : strip false cur = none := by simp [strip, h]
theorem strip_head {cur : List UInt8} (h : ¬ cur.head? = some 120) : strip false cur = none := by simp [strip, h]
theorem strip_ok {cur : List UInt8} (h1 : cur.length = 4) (h : cur.head? = some 120) : strip false cur = some cur.tail := by simp [strip, h, h1]

theorem byte_of (b c : UInt8) (h : ((b.toNat : Int) != (c.toNat : Int)) = false) : b = c := by
  apply UInt8.toNat_inj.1
  simp at h; omega
theorem cur_snoc (P : List UInt8) (start i : Nat) (h : start ≤ i) (hi : i < P.length) : (P.drop start).take (i + 1 - start) = (P.drop start).take (i - start) ++ [P[i]] := by
  rw [show i + 1 - start = (i - start) + 1 from by omega, List.take_succ_eq_append_getElem (by simp; omega)]
  simp only [List.getElem_drop]
  congr 2
  · congr 1; omega
theorem cur_len (P : List UInt8) (start i : Nat) (hi : i ≤ P.length) : ((P.drop start).take (i - start)).length = i - start := by simp; omega
theorem ext_head (s : ByteArray) (h : 0 < s.size) : s.data.toList.head? = some s[0] := by
  have h' : 0 < s.data.toList.length := by cases s; simpa [ByteArray.size] using h
  rw [List.head?_eq_getElem?, List.getElem?_eq_getElem h']
  rfl
theorem ext_two (p : ByteArray) (start i n : Nat) (hn : n = i - start) : ((p.extract start i).extract 1 n).data.toList = ((p.data.toList.drop start).take (i - start)).tail := by
  subst hn
  rw [Lib.extract_data, Lib.extract_data, List.drop_one, List.take_of_length_le (by simp; omega)]

set_option maxHeartbeats 2000000 in
set_option maxRecDepth 20000 in
theorem read_any (p : ByteArray) (w : World) (hp : p.size ≤ 1000) :
    Calls Try.prog 9 #[.string p] w fun e w' => e = .returned (.tuple #[.int .i64 (((rdL p.data.toList [] 0 0).getD 0 : Nat) : Int), .bool (rdL p.data.toList [] 0 0).isSome]) ∧ Below w.heap.size w w' := by
  obtain ⟨R, hR⟩ : ∃ R, R = rdL p.data.toList [] 0 0 := ⟨_, rfl⟩
  rw [← hR]
  have HR : Hid (R = rdL p.data.toList [] 0 0) := hR
  clear hR
  have hle : Hid (p.data.toList.length = p.size) := by show _ = _; cases p; simp [ByteArray.size]
  go_enter Try.func9, Try.ntmps9
  go_wp2_with fail
  go_loopw [2, 3, 4, 5, 6, 7] (fun r0 r1 tv tg ts ti wr => r0 = .int .i64 0 ∧ r1 = .bool false ∧ ∃ i start v gr : Nat, tv = .int .i64 (v : Int) ∧ tg = .int .i64 (gr : Int) ∧ ts = .int .i64 (start : Int) ∧ ti = .int .i64 (i : Int) ∧ start ≤ i ∧ v ≤ 9223372036854775807 ∧ gr ≤ i ∧ i ≤ p.size + 1 ∧
      (i ≤ p.size → rdL (p.data.toList.drop i) ((p.data.toList.drop start).take (i - start)) v gr = R) ∧ (p.size < i → R = some v) ∧ Below w.heap.size w wr) (fun _ _ _ _ _ ti _ => p.size + 2 - (intOf ti).toNat)
  case atStart => exact ⟨rfl, rfl, 0, 0, 0, 0, rfl, rfl, rfl, rfl, Nat.le_refl _, by omega, Nat.le_refl _, by omega, fun _ => by rw [HR.out]; rfl, fun h => by omega, Below.refl _ _⟩
  case round =>
    obtain ⟨rfl, rfl, i, start, v, gr, rfl, rfl, rfl, rfl, hsi, hv, hgr, hi1, htx1, htx2, hb⟩ := hrel
    have HB : Hid (Below w.heap.size w wr) := hb
    have hbs := hb.size
    have HX1 : Hid (i ≤ p.size → rdL (p.data.toList.drop i) ((p.data.toList.drop start).take (i - start)) v gr = R) := htx1
    have HX2 : Hid (p.size < i → R = some v) := htx2
    clear hb htx1 htx2
    by_cases hA : p.size < i
    · have hR := HX2.out hA
      go_wp2_with fail
      go_ret2
      rw [hR]
      exact ⟨rfl, HB.out⟩
    · by_cases hlt : i < p.size
      · have hne : ((i : Int) == (p.size : Int)) = false := by simp; omega
        have hes : (p.extract start i).size = i - start := by rw [ByteArray.size_extract]; omega
        have HD : Hid (p.data.toList.drop i = p[i] :: p.data.toList.drop (i + 1)) := by
          have h1 : i < p.data.toList.length := by rw [hle.out]; exact hlt
          show _ = _
          rw [List.drop_eq_getElem_cons h1]
          rfl
        have HX3 : Hid (rdL (p[i] :: p.data.toList.drop (i + 1)) ((p.data.toList.drop start).take (i - start)) v gr = R) := by
          show _ = _
          rw [← HD.out]; exact HX1.out (by omega)
        have HCL : Hid (((p.data.toList.drop start).take (i - start)).length = i - start) := cur_len _ _ _ (by rw [hle.out]; omega)
        go_wp2_with fail
        · go_roundw
          case rel =>
            have hq : (((p[i]'hlt).toNat : Int) != 47) = true := by assumption
            have hq' : ¬ (p[i]'hlt) = 47 := fun e => by rw [e] at hq; simp at hq
            refine ⟨rfl, rfl, i + 1, start, v, gr, rfl, rfl, rfl, by go_num, by omega, hv, by omega, by omega, fun _ => ?_, fun h => by omega, HB.out⟩
            have h1 : i < p.data.toList.length := by rw [hle.out]; exact hlt
            rw [← HX3.out, rdL, if_neg hq', cur_snoc _ _ _ hsi h1]
            rfl
          case measure => simp [intOf]; omega
        · have hq : (((p[i]'hlt).toNat : Int) != 47) = false := by assumption
          have hq' : (p[i]'hlt) = 47 := byte_of _ 47 hq
          have h4 : ((i - start : Nat) : Int) = 4 := by assumption
          have hx : (((p.extract start i)[0]'(by omega)).toNat : Int) != 120 := by assumption
          have hRn : R = none := by
            rw [← HX3.out, hq']
            refine slash_none (strip_head ?_)
            rw [← Lib.extract_data, ext_head _ (by omega)]
            intro e
            rw [Option.some.injEq] at e
            rw [e] at hx
            simp at hx
          go_ret2
          rw [hRn]
          exact ⟨rfl, HB.out⟩
        · have hq : (((p[i]'hlt).toNat : Int) != 47) = false := by assumption
          have hq' : (p[i]'hlt) = 47 := byte_of _ 47 hq
          have h4 : ((i - start : Nat) : Int) = 4 := by assumption
          have hx : ((((p.extract start i)[0]'(by omega)).toNat : Int) != 120) = false := by assumption
          have hx' : (p.extract start i)[0]'(by omega) = 120 := byte_of _ 120 hx
          have hst : Hid (strip false ((p.data.toList.drop start).take (i - start)) = some ((p.data.toList.drop start).take (i - start)).tail) := by
            refine strip_ok (by rw [HCL.out]; omega) ?_
            rw [← Lib.extract_data, ext_head _ (by omega), hx']
          have HX4 : Hid (rdL (47 :: p.data.toList.drop (i + 1)) ((p.data.toList.drop start).take (i - start)) v gr = R) := by show _ = _; rw [← HX3.out, hq']
          refine (zzig_any _ wr).mono ?_
          rintro e w2 ⟨rfl, hb2⟩
          rw [ext_two p start i _ rfl]
          have HB2 : Hid (Below w.heap.size w w2) := HB.out.trans (hb2.mono hbs)
          clear hb2
          generalize hcur : ((p.data.toList.drop start).take (i - start)).tail = cur at *
          clear hcur
          rcases hig : ig cur with _ | g
          · have hRn : Hid (R = none) := by show _ = _; rw [← HX4.out, slash_ig hst.out hig]
            go_wp2_with fail
            go_ret2
            rw [hRn.out]
            exact ⟨rfl, HB2.out⟩
          · have hg := ig_lt hig
            have HS : Hid ((step false g v gr).bind (fun v' => rdL (p.data.toList.drop (i + 1)) [] v' (gr + 1)) = R) := by show _ = _; rw [← HX4.out, slash_g hst.out hig]
            clear hig
            by_cases hf : gr = 0 ∧ g = 0
            · obtain ⟨rfl, rfl⟩ := hf
              have hRn : Hid (R = none) := by show _ = _; rw [← HS.out, step_first]; rfl
              go_wp2_with fail
              go_ret2
              rw [hRn.out]
              exact ⟨rfl, HB2.out⟩
            · by_cases ho : (big - g) / 1000 < v
              · have hRn : Hid (R = none) := by show _ = _; rw [← HS.out, step_over ho]; rfl
                have ho' : (9223372036854775807 - (g : Int)) / 1000 < (v : Int) := by unfold big at ho; omega
                by_cases hgr0 : gr = 0
                · have hg0 : ¬ (g : Int) = 0 := by omega
                  go_wp2_with fail
                  go_ret2
                  rw [hRn.out]
                  exact ⟨rfl, HB2.out⟩
                · have hgr1 : ¬ (gr : Int) = 0 := by omega
                  go_wp2_with fail
                  go_ret2
                  rw [hRn.out]
                  exact ⟨rfl, HB2.out⟩
              · have ho' : ¬ (9223372036854775807 - (g : Int)) / 1000 < (v : Int) := by unfold big at ho; omega
                have hRn : Hid (rdL (p.data.toList.drop (i + 1)) [] (v * 1000 + g) (gr + 1) = R) := by
                  show _ = _
                  rw [← HS.out, step_ok (fun h => hf ⟨h.1, h.2.2⟩) ho]; rfl
                have hvb : v * 1000 + g ≤ 9223372036854775807 := by unfold big at ho; omega
                by_cases hgr0 : gr = 0
                · have hg0 : ¬ (g : Int) = 0 := by omega
                  go_wp2_with fail
                  go_roundw
                  case rel =>
                    refine ⟨rfl, rfl, i + 1, i + 1, v * 1000 + g, gr + 1, by go_num, by go_num, by go_num, by go_num, Nat.le_refl _, hvb, by omega, by omega, fun _ => ?_, fun h => by omega, HB2.out⟩
                    rw [Nat.sub_self, List.take_zero]; exact hRn.out
                  case measure => simp [intOf]; omega
                · have hgr1 : ¬ (gr : Int) = 0 := by omega
                  go_wp2_with fail
                  go_roundw
                  case rel =>
                    refine ⟨rfl, rfl, i + 1, i + 1, v * 1000 + g, gr + 1, by go_num, by go_num, by go_num, by go_num, Nat.le_refl _, hvb, by omega, by omega, fun _ => ?_, fun h => by omega, HB2.out⟩
                    rw [Nat.sub_self, List.take_zero]; exact hRn.out
                  case measure => simp [intOf]; omega
        · have hq : (((p[i]'hlt).toNat : Int) != 47) = false := by assumption
          have hq' : (p[i]'hlt) = 47 := byte_of _ 47 hq
          have h4 : ¬ ((i - start : Nat) : Int) = 4 := by assumption
          have hRn : R = none := by
            rw [← HX3.out, hq']
            refine slash_none (strip_len ?_)
            rw [HCL.out]; omega
          go_ret2
          rw [hRn]
          exact ⟨rfl, HB.out⟩
      · obtain rfl : i = p.size := by omega
        have HX4 : Hid (rdL [] ((p.data.toList.drop start).take (p.size - start)) v gr = R) := by
          have := HX1.out (Nat.le_refl _)
          rw [List.drop_of_length_le (by rw [hle.out]; exact Nat.le_refl _)] at this
          exact this
        go_wp2_with fail
        refine (zzig_any _ wr).mono ?_
        rintro e w2 ⟨rfl, hb2⟩
        rw [Lib.extract_data]
        have HB2 : Hid (Below w.heap.size w w2) := HB.out.trans (hb2.mono hbs)
        clear hb2
        generalize hcur : ((p.data.toList.drop start).take (p.size - start)) = cur at *
        clear hcur
        rcases hig : ig cur with _ | g
        · have hRn : Hid (R = none) := by show _ = _; rw [← HX4.out, end_ig hig]
          go_wp2_with fail
          go_ret2
          rw [hRn.out]
          exact ⟨rfl, HB2.out⟩
        · have hg := ig_lt hig
          have HS : Hid (step true g v gr = R) := by show _ = _; rw [← HX4.out, end_g hig]
          clear hig
          by_cases ho : (big - g) / 1000 < v
          · have hRn : Hid (R = none) := by show _ = _; rw [← HS.out, step_over ho]
            have ho' : (9223372036854775807 - (g : Int)) / 1000 < (v : Int) := by unfold big at ho; omega
            go_wp2_with fail
            all_goals
              go_ret2
              rw [hRn.out]
              exact ⟨rfl, HB2.out⟩
          · have ho' : ¬ (9223372036854775807 - (g : Int)) / 1000 < (v : Int) := by unfold big at ho; omega
            have hRn : Hid (R = some (v * 1000 + g)) := by
              show _ = _
              rw [← HS.out, step_ok (fun h => by cases h.2.1) ho]
            have hvb : v * 1000 + g ≤ 9223372036854775807 := by unfold big at ho; omega
            go_wp2_with fail
            all_goals
              go_roundw
              case rel =>
                exact ⟨rfl, rfl, p.size + 1, p.size + 1, v * 1000 + g, gr + 1, by go_num, by go_num, by go_num, by go_num, Nat.le_refl _, hvb, by omega, by omega, fun h => by omega, fun _ => hRn.out, HB2.out⟩
              case measure => simp [intOf]
end Go.Proofs.Qxb6606335a
