/-
  hexRuns (function 8) and ZZHexRuns (function 5) compute 'runs'.
-/
import Derived.Test.Qxb6605461aCount
import Derived.Lib.SmallJoins
namespace Go.Proofs.Qxb6605461a
open Go.RowKit

theorem info9 : (Try.prog.info? 9).map (fun i => (i.zero, i.size, i.bytes)) = some (some (.string ByteArray.empty), 1, 16) := by kernel_rfl

def str (L : List UInt8) : ByteArray := ⟨L.toArray⟩
theorem str_toList (L : List UInt8) : (str L).data.toList = L := by simp [str]
theorem str_size (L : List UInt8) : (str L).size = L.length := by simp [str, ByteArray.size]
theorem str_of {b : ByteArray} {L : List UInt8} (h : b.data.toList = L) : b = str L := by subst h; cases b; simp [str]
def svals (Rs : List (List UInt8)) : List Value := Rs.map fun r => Value.string (str r)
theorem svals_length (L : List (List UInt8)) : (svals L).length = L.length := by simp [svals]
theorem svals_append (L M : List (List UInt8)) : svals (L ++ M) = svals L ++ svals M := by simp [svals]
theorem svals_one (L : List (List UInt8)) : ∀ u ∈ svals L, u.oneCell' = true := by
  intro u hu; simp [svals] at hu; obtain ⟨b, _, rfl⟩ := hu; rfl
theorem svals_get (L : List (List UInt8)) (j : Nat) (h : j < L.length) : (svals L)[j]? = some (.string (str L[j])) := by simp [svals, h]

/-- the slice v owns the strings L; no string: nil -/
structure OwnR (B : Nat) (v : Value) (L : List (List UInt8)) (w : World) : Prop where
  row : w.ownsRow B 9 1 v L.length (svals L)
  nil : L = [] → v = .slice none 0 0
theorem OwnR.form {B : Nat} {v : Value} {L : List (List UInt8)} {w : World} (h : OwnR B v L w) (hn : 0 < L.length) : ∃ g cap, v = .slice (some ⟨g, 0, none⟩) L.length cap ∧ B ≤ g ∧ g < w.heap.size := by
  obtain ⟨g, cap, rfl⟩ := Joins.ownsRow_form h.row hn
  obtain ⟨h1, h2⟩ := h.row.lt g rfl
  exact ⟨g, cap, rfl, h1, h2⟩
theorem OwnR.alloc {B : Nat} {v : Value} {L : List (List UInt8)} {w : World} (h : OwnR B v L w) (o : Obj) : OwnR B v L (w.alloc o) := ⟨World.ownsRow.alloc h.row o, h.nil⟩
theorem OwnR.below {B B2 : Nat} {v : Value} {L : List (List UInt8)} {w w' : World} (h : OwnR B v L w) (hb : Below B2 w w') (hg : w.heap.size ≤ B2) : OwnR B v L w' := by
  refine ⟨?_, h.nil⟩
  obtain ⟨h1, h2⟩ := h.row
  refine ⟨h1, ?_⟩
  rcases h2 with h2 | ⟨g', cap', cur, h2, hBg, hh, r⟩
  · exact Or.inl h2
  · exact Or.inr ⟨g', cap', cur, h2, hBg, (hb.block g' (by have := (h.row.lt g' (by rw [h2]; rfl)).2; omega)).trans hh, r⟩
theorem OwnR.cell {B g cap n : Nat} {L : List (List UInt8)} {w : World} (h : OwnR B (.slice (some ⟨g, 0, none⟩) n cap) L w) (hn : n = L.length) (j : Nat) (hj : j < L.length) : w.cell? ⟨g, j, none⟩ = some (.string (str L[j])) := by
  subst hn
  rw [World.ownsRow.cellAt h.row j (by omega), svals_get L j hj]

theorem wpList_pushS {w : World} {ops : Array Oper} {rest : List Oper} {o : Oper} {a : Act} {Q : Exit → Act → World → Prop} (hgd : o.guard = none) (s x : Operand)
    (ho : o.op = .call { callee := .builtin .append, args := #[s, x], argTypes := #[23, 23] }) (B : Nat) (v : Value) (L : List (List UInt8)) (r : List UInt8) (hs : a.eval s = v) (hown : OwnR B v L w)
    (ad : Addr) (c : Nat) (hx : a.eval x = .slice (some ad) 1 c) (hnews : w.cell? ad = some (.string (str r)))
    (hlen : L.length ≤ 1500000) (hB : B ≤ w.heap.size)
    (h : ∀ g cap w', OwnR B (.slice (some ⟨g, 0, none⟩) (L.length + 1) cap) (L ++ [r]) w' → Below B w w' → wpList Try.prog ops Q rest (a.put o.dst (.slice (some ⟨g, 0, none⟩) (L.length + 1) cap)) w') : wpList Try.prog ops Q (o :: rest) a w := by
  obtain ⟨i0, hi, hz0, hz1, hz2⟩ := info_parts info9
  refine wpList_append_own w hgd s x 23 ho B 9 i0 (.string ByteArray.empty) 1 16 Try.underlying23 hi hz0 hz1 hz2 rfl (by decide) v L.length (svals L) hs hown.row ad 1 c (svals [r]) hx (by simp [svals_length]) (fun j u hj => ?_) (svals_one [r]) (by unfold maxLen; omega) (by omega) hB (fun v' w' h1 h2 _ => ?_)
  · have hj' : j < 1 := by have := (List.getElem?_eq_some_iff.1 hj).1; simpa [svals_length] using this
    obtain rfl : j = 0 := by omega
    rw [show ad.add 0 = ad from rfl, hnews, ← hj]
    rfl
  · rw [← svals_append] at h1
    have hR : OwnR B v' (L ++ [r]) w' := ⟨by simpa using h1, fun e => by simp at e⟩
    obtain ⟨g, cap, rfl, hg1, hg2⟩ := hR.form (by simp)
    rw [show (L ++ [r]).length = L.length + 1 from by simp] at hR ⊢
    exact h g cap w' hR ((Below.refl B w).grown h2 hB (fun k hk => (hown.row.lt k hk).1))

theorem new_oneS (w : World) (b : ByteArray) (r : List UInt8) (h : b.data.toList = r) (t : TypeId) : (w.alloc (.cells #[.string b] t)).cell? ⟨w.heap.size, 0, none⟩ = some (.string (str r)) := by
  rw [str_of h]
  simp

theorem cur_snoc (P : List UInt8) (start i : Nat) (h : start ≤ i) (hi : i < P.length) : (P.drop start).take (i + 1 - start) = (P.drop start).take (i - start) ++ [P[i]] := by
  rw [show i + 1 - start = (i - start) + 1 from by omega, List.take_succ_eq_append_getElem (by simp; omega)]
  simp only [List.getElem_drop]
  congr 2
  · congr 1; omega
theorem cur_len (P : List UInt8) (start i : Nat) (hi : i ≤ P.length) : ((P.drop start).take (i - start)).length = i - start := by simp; omega

/-- what hexRuns says -/
def SaysRuns (w : World) (P : List UInt8) (e : Ending) (w' : World) : Prop := ∃ v, e = .returned v ∧ OwnR w.heap.size v (runs P) w' ∧ Below w.heap.size w w'

set_option maxHeartbeats 4000000 in
set_option maxRecDepth 20000 in
theorem runs_any (s : ByteArray) (w : World) (hs : s.size ≤ 1048577) : Calls Try.prog 8 #[.string s] w (SaysRuns w s.data.toList) := by
  obtain ⟨T, hT⟩ : ∃ T, T = runs s.data.toList := ⟨_, rfl⟩
  have HT : Hid (T = runs s.data.toList) := hT
  clear hT
  have hle : Hid (s.data.toList.length = s.size) := by show _ = _; cases s; simp [ByteArray.size]
  go_enter Try.func8, Try.ntmps8
  go_wp2_with fail
  go_loopw [3, 4, 5] (fun v tf ti wr => ∃ (R : List (List UInt8)) (i start : Nat), tf = .int .i64 (start : Int) ∧ ti = .int .i64 (i : Int) ∧ start ≤ i ∧ R.length ≤ i ∧ i ≤ s.size + 1 ∧
      (i ≤ s.size → R ++ runsGo (s.data.toList.drop i) ((s.data.toList.drop start).take (i - start)) = T) ∧ (s.size < i → R = T) ∧ OwnR w.heap.size v R wr ∧ Below w.heap.size w wr) (fun _ _ ti _ => s.size + 2 - (intOf ti).toNat)
  case atStart => exact ⟨[], 0, 0, rfl, rfl, Nat.le_refl _, Nat.le_refl _, by omega, fun _ => by rw [HT.out]; rfl, fun h => by omega, ⟨World.ownsRow_nil _ _ _ _, fun _ => rfl⟩, Below.refl _ _⟩
  case round =>
    obtain ⟨R, i, start, rfl, rfl, hsi, hRl, hi1, htx1, htx2, hown, hb⟩ := hrel
    have HB : Hid (Below w.heap.size w wr) := hb
    have hbs := hb.size
    have HX1 : Hid (i ≤ s.size → R ++ runsGo (s.data.toList.drop i) ((s.data.toList.drop start).take (i - start)) = T) := htx1
    have HX2 : Hid (s.size < i → R = T) := htx2
    have HO : Hid (OwnR w.heap.size _ R wr) := hown
    clear hb htx1 htx2 hown
    by_cases hA : s.size < i
    · have hR := HX2.out hA
      go_wp2_with fail
      go_ret
      exact ⟨_, rfl, by rw [← HT.out, ← hR]; exact HO.out, HB.out⟩
    · by_cases hlt : i < s.size
      · have HD : Hid (s.data.toList.drop i = s[i] :: s.data.toList.drop (i + 1)) := drop_byte s i hlt
        go_wp2_with fail
        refine (isHex_any _ _).mono ?_
        rintro e w' ⟨rfl, hw⟩
        subst hw
        cases hh : hx (s[i]'hlt) with
        | true =>
          have HS : Hid (R ++ runsGo (s.data.toList.drop (i + 1)) ((s.data.toList.drop start).take (i + 1 - start)) = T) := by
            have h1 : i < s.data.toList.length := by rw [hle.out]; exact hlt
            have := HX1.out (by omega)
            rw [HD.out, go_pos _ _ hh] at this
            show _ = _
            rw [cur_snoc _ _ _ hsi h1]
            exact this
          clear hh
          go_wp2_with fail
          go_roundw
          case rel => exact ⟨R, i + 1, start, rfl, by go_num, by omega, by omega, by omega, fun _ => HS.out, fun h => by omega, HO.out, HB.out⟩
          case measure => simp [intOf]; omega
        | false =>
          have HS : Hid (R ++ (endRun ((s.data.toList.drop start).take (i - start)) ++ runsGo (s.data.toList.drop (i + 1)) []) = T) := by
            have := HX1.out (by omega)
            rw [HD.out, go_neg _ _ (by rw [hh]; decide)] at this
            exact this
          clear hh
          by_cases h32 : start + 32 ≤ i
          · have HE : Hid (endRun ((s.data.toList.drop start).take (i - start)) = [(s.data.toList.drop start).take (i - start)]) := by
              show _ = _
              rw [endRun, if_pos (by rw [cur_len _ _ _ (by rw [hle.out]; omega)]; omega)]
            have HS2 : Hid ((R ++ [(s.data.toList.drop start).take (i - start)]) ++ runsGo (s.data.toList.drop (i + 1)) [] = T) := by
              show _ = _
              rw [← HS.out, HE.out]; simp
            have hes : (s.extract start i).size = i - start := by rw [ByteArray.size_extract]; omega
            have hge : (32 : Int) ≤ (i : Int) - (start : Int) := by omega
            have HEX : Hid ((s.extract start i).data.toList = (s.data.toList.drop start).take (i - start)) := Lib.extract_data _ _ _
            go_wp2_with fail
            refine (clone_any _ _ (by omega)).mono ?_
            rintro e w2 ⟨rfl, hb2⟩
            have HO2 : Hid (OwnR w.heap.size _ R w2) := HO.out.below hb2 (Nat.le_refl _)
            have HB2 : Hid (Below w.heap.size w w2) := HB.out.trans (hb2.mono hbs)
            have hbs2 := HB2.out.size
            clear hb2 hes
            go_wp2_with (at_builtin; refine wpList_pushS rfl _ _ rfl w.heap.size _ R ((s.data.toList.drop start).take (i - start)) rfl (HO2.out.alloc _) ⟨w2.heap.size, 0, none⟩ 1 rfl ?c1 ?c2 ?c3 ?_)
            case c1 => exact new_oneS w2 _ _ HEX.out _
            case c2 => omega
            case c3 => simp; omega
            intro g cap w3 hown3 hb3
            have HO3 : Hid (OwnR w.heap.size (.slice (some ⟨g, 0, none⟩) (R.length + 1) cap) (R ++ [(s.data.toList.drop start).take (i - start)]) w3) := hown3
            have HB3 : Hid (Below w.heap.size w w3) := (HB2.out.alloc hbs2 _).trans hb3
            clear hown3 hb3
            go_wp2_with fail
            go_roundw
            case rel =>
              refine ⟨_, i + 1, i + 1, by go_num, by go_num, Nat.le_refl _, ?_, by omega, fun _ => ?_, fun h => by omega, HO3.out, HB3.out⟩
              · simp; omega
              · rw [Nat.sub_self, List.take_zero]; exact HS2.out
            case measure => simp [intOf]; omega
          · have HE : Hid (endRun ((s.data.toList.drop start).take (i - start)) = []) := by
              show _ = _
              rw [endRun, if_neg (by rw [cur_len _ _ _ (by rw [hle.out]; omega)]; omega)]
            have HS2 : Hid (R ++ runsGo (s.data.toList.drop (i + 1)) [] = T) := by
              show _ = _
              rw [← HS.out, HE.out]; simp
            have hge : ¬ (32 : Int) ≤ (i : Int) - (start : Int) := by omega
            go_wp2_with fail
            go_roundw
            case rel =>
              refine ⟨R, i + 1, i + 1, by go_num, by go_num, Nat.le_refl _, by omega, by omega, fun _ => ?_, fun h => by omega, HO.out, HB.out⟩
              rw [Nat.sub_self, List.take_zero]; exact HS2.out
            case measure => simp [intOf]; omega
      · obtain rfl : i = s.size := by omega
        have HS : Hid (R ++ endRun ((s.data.toList.drop start).take (s.size - start)) = T) := by
          have := HX1.out (Nat.le_refl _)
          rw [List.drop_of_length_le (i := s.size) (by rw [hle.out]; exact Nat.le_refl _)] at this
          exact this
        by_cases h32 : start + 32 ≤ s.size
        · have HE : Hid (endRun ((s.data.toList.drop start).take (s.size - start)) = [(s.data.toList.drop start).take (s.size - start)]) := by
            show _ = _
            rw [endRun, if_pos (by rw [cur_len _ _ _ (by rw [hle.out]; omega)]; omega)]
          have HS2 : Hid (R ++ [(s.data.toList.drop start).take (s.size - start)] = T) := by
            show _ = _
            rw [← HS.out, HE.out]
          have hes : (s.extract start s.size).size = s.size - start := by rw [ByteArray.size_extract]; omega
          have hge : (32 : Int) ≤ (s.size : Int) - (start : Int) := by omega
          have HEX : Hid ((s.extract start s.size).data.toList = (s.data.toList.drop start).take (s.size - start)) := Lib.extract_data _ _ _
          go_wp2_with fail
          refine (clone_any _ _ (by omega)).mono ?_
          rintro e w2 ⟨rfl, hb2⟩
          have HO2 : Hid (OwnR w.heap.size _ R w2) := HO.out.below hb2 (Nat.le_refl _)
          have HB2 : Hid (Below w.heap.size w w2) := HB.out.trans (hb2.mono hbs)
          have hbs2 := HB2.out.size
          clear hb2 hes
          go_wp2_with (at_builtin; refine wpList_pushS rfl _ _ rfl w.heap.size _ R ((s.data.toList.drop start).take (s.size - start)) rfl (HO2.out.alloc _) ⟨w2.heap.size, 0, none⟩ 1 rfl ?c1 ?c2 ?c3 ?_)
          case c1 => exact new_oneS w2 _ _ HEX.out _
          case c2 => omega
          case c3 => simp; omega
          intro g cap w3 hown3 hb3
          have HO3 : Hid (OwnR w.heap.size (.slice (some ⟨g, 0, none⟩) (R.length + 1) cap) (R ++ [(s.data.toList.drop start).take (s.size - start)]) w3) := hown3
          have HB3 : Hid (Below w.heap.size w w3) := (HB2.out.alloc hbs2 _).trans hb3
          clear hown3 hb3
          go_wp2_with fail
          go_roundw
          case rel =>
            refine ⟨_, s.size + 1, s.size + 1, by go_num, by go_num, Nat.le_refl _, ?_, by omega, fun h => by omega, fun _ => HS2.out, HO3.out, HB3.out⟩
            simp; omega
          case measure => simp [intOf]
        · have HE : Hid (endRun ((s.data.toList.drop start).take (s.size - start)) = []) := by
            show _ = _
            rw [endRun, if_neg (by rw [cur_len _ _ _ (by rw [hle.out]; omega)]; omega)]
          have HS2 : Hid (R = T) := by
            show _ = _
            rw [← HS.out, HE.out]; simp
          have hge : ¬ (32 : Int) ≤ (s.size : Int) - (start : Int) := by omega
          go_wp2_with fail
          go_roundw
          case rel =>
            exact ⟨R, s.size + 1, s.size + 1, by go_num, by go_num, Nat.le_refl _, by omega, by omega, fun h => by omega, fun _ => HS2.out, HO.out, HB.out⟩
          case measure => simp [intOf]

theorem zzruns_any (s : ByteArray) (w : World) (hs : s.size ≤ 1048577) : Calls Try.prog 5 #[.string s] w (SaysRuns w s.data.toList) := by
  go_enter Try.func5, Try.ntmps5
  go_wp2_with fail
  refine (runs_any _ _ hs).mono ?_
  rintro e w1 ⟨v, rfl, h⟩
  go_wp2_with fail
  go_ret
  exact ⟨v, rfl, h⟩
end Go.Proofs.Qxb6605461a
