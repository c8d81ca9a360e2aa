/-
  zzCountLongRuns (function 7) computes 'cntL'.
-/
import Derived.Test.Qxb6605461aSmall
namespace Go.Proofs.Qxb6605461a
open Go.RowKit

/-- is the byte just before place i a hex digit? -/
def pv (P : List UInt8) (i : Nat) : Bool := if i = 0 then false else hx (P.getD (i - 1) 0)
theorem getD_byte (s : ByteArray) (i : Nat) (h : i < s.size) : s.data.toList.getD i 0 = s[i] := by
  have h' : i < s.data.toList.length := by cases s; simpa [ByteArray.size] using h
  rw [List.getD_eq_getElem?_getD, List.getElem?_eq_getElem h']
  rfl
theorem drop_byte (s : ByteArray) (i : Nat) (h : i < s.size) : s.data.toList.drop i = s[i] :: s.data.toList.drop (i + 1) := by
  have h' : i < s.data.toList.length := by cases s; simpa [ByteArray.size] using h
  rw [List.drop_eq_getElem_cons h']
  rfl
theorem pv_succ (s : ByteArray) (i : Nat) (h : i < s.size) : pv s.data.toList (i + 1) = hx s[i] := by
  unfold pv
  rw [if_neg (by omega), Nat.add_sub_cancel, getD_byte s i h]
theorem long_yes (s : ByteArray) (i : Nat) (h : i + 32 ≤ s.size) (hk : ∀ k, k < 32 → hx (s.data.toList.getD (i + k) 0) = true) : long32 (s.data.toList.drop i) = true := by
  have hl : s.data.toList.length = s.size := by cases s; simp [ByteArray.size]
  unfold long32
  rw [Bool.and_eq_true, decide_eq_true_eq]
  refine ⟨by simp; omega, ?_⟩
  rw [List.all_eq_true]
  intro c hc
  obtain ⟨k, hk1, rfl⟩ := List.getElem_of_mem hc
  have hk2 : k < 32 := by simp at hk1; omega
  have := hk k hk2
  rw [List.getD_eq_getElem?_getD, List.getElem?_eq_getElem (by omega)] at this
  simpa using this
theorem long_no (s : ByteArray) (i k : Nat) (h : i + 32 ≤ s.size) (hk : k < 32) (hh : hx (s.data.toList.getD (i + k) 0) = false) : long32 (s.data.toList.drop i) = false := by
  have hl : s.data.toList.length = s.size := by cases s; simp [ByteArray.size]
  cases e : long32 (s.data.toList.drop i) with
  | false => rfl
  | true =>
    unfold long32 at e
    rw [Bool.and_eq_true, List.all_eq_true] at e
    have hk1 : k < ((s.data.toList.drop i).take 32).length := by simp; omega
    have := e.2 _ (List.getElem_mem hk1)
    rw [List.getD_eq_getElem?_getD, List.getElem?_eq_getElem (by omega)] at hh
    simp at this hh
    rw [this] at hh; cases hh

set_option maxHeartbeats 2000000 in
set_option maxRecDepth 20000 in
theorem count_any (s : ByteArray) (w : World) (hs : s.size ≤ 1048576) : Calls Try.prog 7 #[.string s] w fun e w' => e = .returned (.int .i64 (cntL false s.data.toList : Int)) ∧ w' = w := by
  obtain ⟨C, hC⟩ : ∃ C, C = cntL false s.data.toList := ⟨_, rfl⟩
  rw [← hC]
  have HC : Hid (C = cntL false s.data.toList) := hC
  have hCb : C ≤ s.size := by
    rw [hC]; have := cnt_le s.data.toList false
    have hl : s.data.toList.length = s.size := by cases s; simp [ByteArray.size]
    omega
  clear hC
  have hl : Hid (s.data.toList.length = s.size) := by show _ = _; cases s; simp [ByteArray.size]
  go_enter Try.func7, Try.ntmps7
  go_wp2_with fail
  go_loop [3, 4] (fun tn ti => ∃ n i : Nat, i ≤ s.size + 1 ∧ n ≤ s.size ∧ tn = .int .i64 (n : Int) ∧ ti = .int .i64 (i : Int) ∧ n + cntL (pv s.data.toList i) (s.data.toList.drop i) = C) (fun _ ti => s.size + 2 - (intOf ti).toNat)
  case atStart => exact ⟨0, 0, by omega, by omega, rfl, rfl, by rw [HC.out]; simp [pv]⟩
  case round =>
    obtain ⟨n, i, hi, hn, rfl, rfl, htx⟩ := hrel
    have HTX : Hid (n + cntL (pv s.data.toList i) (s.data.toList.drop i) = C) := htx
    clear htx
    by_cases hlt : i + 32 ≤ s.size
    · have HD : Hid (s.data.toList.drop i = s[i] :: s.data.toList.drop (i + 1)) := drop_byte s i (by omega)
      have HP : Hid (pv s.data.toList (i + 1) = hx s[i]) := pv_succ s i (by omega)
      have hil : i < s.size := by omega
      by_cases h0 : i = 0
      · have HPV : Hid (pv s.data.toList i = false) := by show _ = _; rw [h0]; rfl
        have hnp : ¬ (0 : Int) < (i : Int) := by omega
        clear h0
        go_wp2_with fail
        go_loop [5, 6] (fun tok tk => ∃ k : Nat, k ≤ 32 ∧ tok = .bool true ∧ tk = .int .i64 (k : Int) ∧ ∀ j, j < k → hx (s.data.toList.getD (i + j) 0) = true) (fun _ tk => 32 - (intOf tk).toNat)
        case atStart => exact ⟨0, by omega, rfl, rfl, fun j hj => by omega⟩
        case round =>
          obtain ⟨k, hk, rfl, rfl, hj⟩ := hrel
          have HJ : Hid (∀ j, j < k → hx (s.data.toList.getD (i + j) 0) = true) := hj
          clear hj
          by_cases hk32 : k < 32
          · have hik : i + k < s.size := by omega
            have HG : Hid (s.data.toList.getD (i + k) 0 = s[i + k]) := getD_byte s (i + k) hik
            go_wp2_with fail
            refine (lower_any _ _).mono ?_
            rintro e w' ⟨rfl, hw⟩
            subst hw
            cases hh : hx (s[i + k]'hik) with
            | true =>
              have HH : Hid (hx (s.data.toList.getD (i + k) 0) = true) := by show _ = _; rw [HG.out]; exact hh
              clear hh
              go_wp2_with fail
              go_round
              case rel =>
                have HR : ∀ j, j < k + 1 → hx (s.data.toList.getD (i + j) 0) = true := fun j hj => by
                  by_cases e : j = k
                  · subst e; exact HH.out
                  · exact HJ.out j (by omega)
                first
                  | exact ⟨k + 1, by omega, rfl, by go_num, HR⟩
                  | ((repeat apply Exists.intro); exact ⟨⟨k + 1, by omega, rfl, by go_num, HR⟩, rfl⟩)
              case measure => simp [intOf]; omega
            | false =>
              have HL : Hid (long32 (s.data.toList.drop i) = false) := long_no s i k hlt hk32 (by rw [HG.out]; exact hh)
              have HS : Hid (n + cntL (pv s.data.toList (i + 1)) (s.data.toList.drop (i + 1)) = C) := by
                have h1 := HTX.out
                have h2 := HL.out
                rw [HD.out] at h1 h2
                rw [cnt_no (fun h' => by rw [h2] at h'; cases h'.2)] at h1
                show _ = _
                rw [HP.out]; exact h1
              clear hh
              go_wp2_with fail
              go_round
              case rel =>
                first
                  | exact ⟨n, i + 1, by omega, hn, rfl, by go_num, HS.out⟩
                  | ((repeat apply Exists.intro); exact ⟨⟨n, i + 1, by omega, hn, rfl, by go_num, HS.out⟩, rfl⟩)
              case measure => simp [intOf]; omega
          · have HL : Hid (long32 (s.data.toList.drop i) = true) := long_yes s i hlt (fun j hj => HJ.out j (by omega))
            have HS : Hid (n + 1 + cntL (pv s.data.toList (i + 1)) (s.data.toList.drop (i + 1)) = C) := by
              have h1 := HTX.out
              have h2 := HL.out
              rw [HPV.out, HD.out] at h1
              rw [HD.out] at h2
              rw [cnt_yes h2] at h1
              show _ = _
              rw [HP.out]; omega
            have hn1 : n + 1 ≤ s.size := by have := HS.out; omega
            go_wp2_with fail
            go_round
            case rel =>
              first
                | exact ⟨n + 1, i + 1, by omega, hn1, by go_num, by go_num, HS.out⟩
                | ((repeat apply Exists.intro); exact ⟨⟨n + 1, i + 1, by omega, hn1, by go_num, by go_num, HS.out⟩, rfl⟩)
            case measure => simp [intOf]; omega
      · have hpos : (0 : Int) < (i : Int) := by omega
        have hm1 : i - 1 < s.size := by omega
        have HPE : Hid (pv s.data.toList i = hx (s[i - 1]'hm1)) := by
          have := pv_succ s (i - 1) hm1
          show _ = _
          rw [← this, show i - 1 + 1 = i from by omega]
        go_wp2_with fail
        refine (lower_any _ _).mono ?_
        rintro e w' ⟨rfl, hw⟩
        subst hw
        cases hpb : hx (s[i - 1]'hm1) with
        | true =>
          have HS : Hid (n + cntL (pv s.data.toList (i + 1)) (s.data.toList.drop (i + 1)) = C) := by
            have h1 := HTX.out
            rw [HPE.out, hpb, HD.out, cnt_true] at h1
            show _ = _
            rw [HP.out]; exact h1
          clear hpb
          go_wp2_with fail
          go_round
          case rel =>
            first
              | exact ⟨n, i + 1, by omega, hn, rfl, by go_num, HS.out⟩
              | ((repeat apply Exists.intro); exact ⟨⟨n, i + 1, by omega, hn, rfl, by go_num, HS.out⟩, rfl⟩)
          case measure => simp [intOf]; omega
        | false =>
          have HPV : Hid (pv s.data.toList i = false) := by show _ = _; rw [HPE.out]; exact hpb
          clear hpb
          go_wp2_with fail
          go_loop [5, 6] (fun tok tk => ∃ k : Nat, k ≤ 32 ∧ tok = .bool true ∧ tk = .int .i64 (k : Int) ∧ ∀ j, j < k → hx (s.data.toList.getD (i + j) 0) = true) (fun _ tk => 32 - (intOf tk).toNat)
          case atStart => exact ⟨0, by omega, rfl, rfl, fun j hj => by omega⟩
          case round =>
            obtain ⟨k, hk, rfl, rfl, hj⟩ := hrel
            have HJ : Hid (∀ j, j < k → hx (s.data.toList.getD (i + j) 0) = true) := hj
            clear hj
            by_cases hk32 : k < 32
            · have hik : i + k < s.size := by omega
              have HG : Hid (s.data.toList.getD (i + k) 0 = s[i + k]) := getD_byte s (i + k) hik
              go_wp2_with fail
              refine (lower_any _ _).mono ?_
              rintro e w' ⟨rfl, hw⟩
              subst hw
              cases hh : hx (s[i + k]'hik) with
              | true =>
                have HH : Hid (hx (s.data.toList.getD (i + k) 0) = true) := by show _ = _; rw [HG.out]; exact hh
                clear hh
                go_wp2_with fail
                go_round
                case rel =>
                  have HR : ∀ j, j < k + 1 → hx (s.data.toList.getD (i + j) 0) = true := fun j hj => by
                    by_cases e : j = k
                    · subst e; exact HH.out
                    · exact HJ.out j (by omega)
                  first
                    | exact ⟨k + 1, by omega, rfl, by go_num, HR⟩
                    | ((repeat apply Exists.intro); exact ⟨⟨k + 1, by omega, rfl, by go_num, HR⟩, rfl⟩)
                case measure => simp [intOf]; omega
              | false =>
                have HL : Hid (long32 (s.data.toList.drop i) = false) := long_no s i k hlt hk32 (by rw [HG.out]; exact hh)
                have HS : Hid (n + cntL (pv s.data.toList (i + 1)) (s.data.toList.drop (i + 1)) = C) := by
                  have h1 := HTX.out
                  have h2 := HL.out
                  rw [HD.out] at h1 h2
                  rw [cnt_no (fun h' => by rw [h2] at h'; cases h'.2)] at h1
                  show _ = _
                  rw [HP.out]; exact h1
                clear hh
                go_wp2_with fail
                go_round
                case rel =>
                  first
                    | exact ⟨n, i + 1, by omega, hn, rfl, by go_num, HS.out⟩
                    | ((repeat apply Exists.intro); exact ⟨⟨n, i + 1, by omega, hn, rfl, by go_num, HS.out⟩, rfl⟩)
                case measure => simp [intOf]; omega
            · have HL : Hid (long32 (s.data.toList.drop i) = true) := long_yes s i hlt (fun j hj => HJ.out j (by omega))
              have HS : Hid (n + 1 + cntL (pv s.data.toList (i + 1)) (s.data.toList.drop (i + 1)) = C) := by
                have h1 := HTX.out
                have h2 := HL.out
                rw [HPV.out, HD.out] at h1
                rw [HD.out] at h2
                rw [cnt_yes h2] at h1
                show _ = _
                rw [HP.out]; omega
              have hn1 : n + 1 ≤ s.size := by have := HS.out; omega
              go_wp2_with fail
              go_round
              case rel =>
                first
                  | exact ⟨n + 1, i + 1, by omega, hn1, by go_num, by go_num, HS.out⟩
                  | ((repeat apply Exists.intro); exact ⟨⟨n + 1, i + 1, by omega, hn1, by go_num, by go_num, HS.out⟩, rfl⟩)
              case measure => simp [intOf]; omega
    · have HR : Hid (C = n) := by
        have := HTX.out
        rw [cnt_short _ _ (by simp; have := hl.out; omega)] at this
        show _ = _; omega
      go_wp2_with fail
      go_ret
      rw [HR.out]
      exact ⟨rfl, rfl⟩
end Go.Proofs.Qxb6605461a
