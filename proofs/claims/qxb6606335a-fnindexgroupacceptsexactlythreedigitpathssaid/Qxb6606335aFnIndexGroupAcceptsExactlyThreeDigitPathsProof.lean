/-
  The proof of 'Rows.FnIndexGroupAcceptsExactlyThreeDigitPathsSaid': the shell's frame (written by the kit's tool for this program), the world behind the call told by 'Below'.
-/
import Derived.Test.Qxb6606335aRows
import Derived.WalkKit
import Derived.ProofKit
import Derived.OpenShut
import Derived.ShutString
import Derived.ChangeOld
import Derived.Below
import Derived.Lib.Strings
import Derived.Test.Qxb6606335aTip
import Derived.Test.Qxb6606335aExact
namespace Go.Proofs.Qxb6606335a.fnIndexGroupAcceptsExactlyThreeDigitPaths
open Go.ChangeShapes Go.WideShapes Go.ChangeAt Go.RowKit
open Go.ChangeMaps (open_string shut_string)
set_option linter.unusedVariables false      -- a walk need not use every 'w<i>' (that an integer argument fits its kind)

theorem own : ownKnob Try.prog.godebug = none := by kernel_rfl

theorem bytes_yes (s : ByteArray) (w : World) (h : s.size ≤ 1048576) : Calls Try.prog 10 #[.string s] w fun e w' => e = .returned (.bool true) ∧ w' = w := by
  go_enter Try.func10, Try.ntmps10
  go_wp2_with fail
  go_ret
  exact ⟨rfl, rfl⟩
theorem bytes_no (s : ByteArray) (w : World) (h : ¬ s.size ≤ 1048576) (hm : s.size ≤ 9223372036854775807) : Calls Try.prog 10 #[.string s] w fun e w' => e = .returned (.bool false) ∧ w' = w := by
  go_enter Try.func10, Try.ntmps10
  go_wp2_with fail
  go_ret
  exact ⟨rfl, rfl⟩

set_option maxHeartbeats 1000000 in
set_option maxRecDepth 20000 in
theorem walk (a0 : ByteArray) (w0 : a0.size ≤ maxLen) (w : World) :
    Calls Try.prog 6 #[.string a0] w fun e w' => e = .returned (.bool true) ∧ Below w.heap.size w w' := by
  unfold maxLen at w0
  by_cases hsz : a0.size ≤ 1048576
  · have hl : Hid (a0.toList = a0.data.toList) := Lib.toList_data a0
    go_enter Try.func6, Try.ntmps6
    go_wp2_with fail
    refine (bytes_yes a0 w hsz).mono ?_
    rintro e w1 ⟨rfl, hw1⟩
    subst hw1
    go_wp2_with fail
    refine (zzig_any a0 w1).mono ?_
    rintro e w2 ⟨rfl, hb2⟩
    rcases hig : ig a0.data.toList with _ | g
    · have HG : Hid (ig a0.data.toList = none) := hig
      clear hig
      go_wp2_with fail
      go_loopw [5, 6, 7] (fun tw tf tk wr => ∃ k : Nat, k ≤ 1000 ∧ tw = .int .i64 0 ∧ tf = .bool false ∧ tk = .int .i64 (k : Int) ∧ Below w1.heap.size w1 wr) (fun _ _ tk _ => 1000 - (intOf tk).toNat)
      case atStart => exact ⟨0, by omega, rfl, rfl, rfl, hb2⟩
      case round =>
        obtain ⟨k, hk, rfl, rfl, rfl, hb⟩ := hrel
        by_cases hlt : k < 1000
        · have hq : (tip k == a0.toList) = false := by rw [hl.out]; exact tip_never hlt HG.out
          go_wp2_with fail
          refine (zztip_any k wr (by omega)).mono ?_
          rintro e w3 ⟨rfl, hb3⟩
          have hb4 : Hid (Below w1.heap.size w1 w3) := hb.trans (hb3.mono hb.size)
          clear hb3 hb
          go_wp2_with fail
          go_roundw
          case rel => exact ⟨k + 1, by omega, rfl, rfl, by go_num, hb4.out⟩
          case measure => simp [intOf]; omega
        · go_wp2_with fail
          go_ret
          exact ⟨rfl, hb⟩
    · have HG : Hid (ig a0.data.toList = some g) := hig
      obtain ⟨hg, htg⟩ := ig_back hig
      have HT : Hid (tip g = a0.data.toList) := htg
      clear hig htg
      go_wp2_with fail
      go_loopw [5, 6, 7] (fun tw tf tk wr => ∃ k : Nat, k ≤ g ∧ tw = .int .i64 0 ∧ tf = .bool false ∧ tk = .int .i64 (k : Int) ∧ Below w1.heap.size w1 wr) (fun _ _ tk _ => 1000 - (intOf tk).toNat)
      case atStart => exact ⟨0, by omega, rfl, rfl, rfl, hb2⟩
      case round =>
        obtain ⟨k, hk, rfl, rfl, rfl, hb⟩ := hrel
        by_cases hlt : k < g
        · have hq : (tip k == a0.toList) = false := by rw [hl.out]; exact tip_other (by omega) HG.out (by omega)
          go_wp2_with fail
          refine (zztip_any k wr (by omega)).mono ?_
          rintro e w3 ⟨rfl, hb3⟩
          have hb4 : Hid (Below w1.heap.size w1 w3) := hb.trans (hb3.mono hb.size)
          clear hb3 hb
          go_wp2_with fail
          go_roundw
          case rel => exact ⟨k + 1, by omega, rfl, rfl, by go_num, hb4.out⟩
          case measure => simp [intOf]; omega
        · obtain rfl : k = g := by omega
          have hq : (tip k == a0.toList) = true := by rw [hl.out, HT.out]; simp
          go_wp2_with fail
          refine (zztip_any k wr (by omega)).mono ?_
          rintro e w3 ⟨rfl, hb3⟩
          have hb4 : Hid (Below w1.heap.size w1 w3) := hb.trans (hb3.mono hb.size)
          clear hb3 hb
          go_wp2_with fail
          go_ret
          exact ⟨rfl, hb4.out⟩
  · go_enter Try.func6, Try.ntmps6
    go_wp2_with fail
    refine (bytes_no a0 w hsz w0).mono ?_
    rintro e w1 ⟨rfl, hw1⟩
    subst hw1
    go_wp2_with fail
    go_ret
    exact ⟨rfl, Below.refl _ _⟩


set_option maxRecDepth 100000 in
theorem lifted (os : Os) (started : os.Started) (H : Type) (enc : TypeId × Value → H) :
    ReturnsInHanded {} Try.checked os 6 .any (Rows.fnIndexGroupAcceptsExactlyThreeDigitPathsSpec.pre6 enc Try.prog Try.f6 Rows.fnIndexGroupAcceptsExactlyThreeDigitPathsRow.domain false) (Rows.fnIndexGroupAcceptsExactlyThreeDigitPathsSpec.post enc Try.prog Try.f6 false true false false) := by
  refine returnsInHanded_of_change (C := Try.checked) own started (by kernel_rfl) Try.func6
    (ChangeSpec.witness6 (enc := enc) (C := Try.checked) false ⟨#[], #[.string ByteArray.empty], []⟩ 8 (by kernel_rfl) (by kernel_rfl) (by kernel_rfl) (by kernel_rfl)) ?_
  intro W base args ds gs before hval0 hW hcnd _
  have hval : ∀ (j : Nat) t v, Try.f6.params[j]? = some t → args[j]? = some v → Value.okWide Try.prog W .any base t v := hval0
  have hW' := hW
  obtain ⟨p, q, hA0, hV, rfl, hfz, hnd⟩ := hW
  have hA : DataW.TrodAll enc Try.prog W 0 (fun _ => true) true Try.f6.params.toList args.toList ds p := hA0
  rw [Try.params6] at hA hval
  obtain ⟨v0, vs0, d0, ds0, p0, q0, hargs, rfl, rfl, h0, r0⟩ := trodAll_cons hA
  obtain ⟨rfl, rfl, rfl⟩ := trodAll_nil r0
  obtain rfl : args = #[v0] := by cases args; simp_all
  obtain ⟨rfl, rfl⟩ := trodVars_none hV
  obtain ⟨a0, rfl, rfl, rfl, w0⟩ := open_string Try.underlying9 (hval 0 9 v0 rfl rfl) h0
  clear hA0 hval0
  simp only [List.append_nil] at hW'
  refine (walk a0 w0 W).mono fun e W' ⟨he, bel⟩ => ?_
  subst he
  exact ⟨_, rfl, _, _, _, [], [], [], hW', trodAll_mk1 (shut_bool Try.underlying4 _), (trodAll_cons_mk (shut_string Try.underlying9 w0) trodAll_mk0), rfl, bel.frame _, fun h => by cases h⟩

theorem over : Rows.fnIndexGroupAcceptsExactlyThreeDigitPathsRow.holds Try.pinned (OpenSpec.ofChange Rows.fnIndexGroupAcceptsExactlyThreeDigitPathsSpec) :=
  OpenClaim.holds_of_wide 6 Try.f6 rfl rfl rfl rfl rfl rfl rfl ⟨rfl, rfl, rfl, rfl, rfl⟩ rfl rfl rfl rfl rfl (by kernel_rfl) Try.func6 (by kernel_rfl)
    (of_decide_eq_true (by kernel_rfl)) (by unfold Func.isWrapper; first | (rw [if_pos (by decide +kernel)]; kernel_rfl) | (rw [if_neg (by decide +kernel)]; exact ⟨rfl, rfl⟩))
    (fun os started H enc _ => lifted os started H enc)

/-- THE STATEMENT -/
theorem proved : Rows.FnIndexGroupAcceptsExactlyThreeDigitPathsSaid :=
  over
end Go.Proofs.Qxb6606335a.fnIndexGroupAcceptsExactlyThreeDigitPaths
