/-
  The proof of 'Rows.FnTileIndexPathSortsShortlexAsIndicesSaid': the shell's frame (written by the kit's tool for this program), the world behind the call told by 'Below'.
-/
import Derived.Test.Qxb6606335aRows
import Derived.WalkKit
import Derived.ProofKit
import Derived.OpenShut
import Derived.ShutString
import Derived.ChangeOld
import Derived.Below
import Derived.Test.Qxb6606335aTip
import Derived.Test.Qxb6606335aShort
namespace Go.Proofs.Qxb6606335a.fnTileIndexPathSortsShortlexAsIndices
open Go.ChangeShapes Go.WideShapes Go.ChangeAt Go.RowKit
open Go.ChangeMaps (open_string shut_string)
set_option linter.unusedVariables false      -- a walk need not use every 'w<i>' (that an integer argument fits its kind)

theorem own : ownKnob Try.prog.godebug = none := by kernel_rfl

theorem eq_same (a b : Nat) (hb : a ≤ 9223372036854775807) (hb' : b ≤ 9223372036854775807) : (((a : Int) == (b : Int)) == (tip a == tip b)) = true := by
  rcases Nat.lt_trichotomy a b with h | h | h
  · have h1 : ((a : Int) == (b : Int)) = false := by simp; omega
    have h2 : (tip a == tip b) = false := by simpa using tip_ne h hb'
    rw [h1, h2]; rfl
  · subst h; simp
  · have h1 : ((a : Int) == (b : Int)) = false := by simp; omega
    have h2 : (tip a == tip b) = false := by simpa using (tip_ne h hb).symm
    rw [h1, h2]; rfl
theorem lt_same (a b : Nat) (hb : a ≤ 9223372036854775807) (hb' : b ≤ 9223372036854775807) : a < b ↔ ((tip a).length < (tip b).length ∨ ((tip a).length = (tip b).length ∧ Op.bytesLess (tip a) (tip b) = true)) := by
  refine ⟨fun h => tip_lt h hb', fun h => ?_⟩
  rcases Nat.lt_trichotomy a b with h1 | h1 | h1
  · exact h1
  · subst h1
    rcases h with h | ⟨_, h⟩
    · omega
    · rw [less_irrefl] at h; cases h
  · rcases tip_lt h1 hb with k | ⟨k, k'⟩
    · rcases h with h | ⟨h, _⟩ <;> omega
    · rcases h with h | ⟨_, h⟩
      · omega
      · rw [less_asymm _ _ k'] at h; cases h

theorem way_e {a b x y : Nat} {c : Bool} (F : a < b ↔ (x < y ∨ (x = y ∧ c = true))) (h1 : (x : Int) = (y : Int)) (h : ¬ decide (a < b) = (decide (x < y) || c)) : False := by
  have e : x = y := by omega
  subst e
  apply h
  rw [Bool.eq_iff_iff]
  simp [F]
theorem way_n {a b x y : Nat} {c : Bool} (F : a < b ↔ (x < y ∨ (x = y ∧ c = true))) (h1 : ¬ (x : Int) = (y : Int)) (h : ¬ (a < b ↔ x < y)) : False := by
  apply h
  rw [F]
  exact ⟨fun k => k.elim id (fun k => absurd (by omega) h1), Or.inl⟩
theorem way_l {a b x y : Nat} {c : Bool} (F : a < b ↔ (x < y ∨ (x = y ∧ c = true))) (h1 : ¬ y ≤ x) (h : ¬ a < b) : False :=
  h (F.2 (.inl (by omega)))

theorem ret_bool {a b : Bool} (h : a = b) : Ending.returned (.bool a) = .returned (.bool b) := by rw [h]

set_option maxHeartbeats 1000000 in
theorem walk (a0 : Int) (a1 : Int) (w0 : (Lit.int .i64 a0).wf = true) (w1 : (Lit.int .i64 a1).wf = true) (w : World) :
    Calls Try.prog 5 #[.int .i64 a0, .int .i64 a1] w fun e w' => e = .returned (.bool true) ∧ Below w.heap.size w w' := by
  have b0 := bounds_i64 w0
  have b1 := bounds_i64 w1
  by_cases n0 : a0 < 0
  · go_enter Try.func5, Try.ntmps5
    go_wp2_with fail
    go_ret
    exact ⟨rfl, Below.refl _ _⟩
  by_cases n1 : a1 < 0
  · go_enter Try.func5, Try.ntmps5
    go_wp2_with fail
    go_ret
    exact ⟨rfl, Below.refl _ _⟩
  obtain ⟨a, rfl⟩ : ∃ a : Nat, a0 = (a : Int) := ⟨a0.toNat, by omega⟩
  obtain ⟨b, rfl⟩ : ∃ b : Nat, a1 = (b : Int) := ⟨a1.toNat, by omega⟩
  have F1 := lt_same a b (by omega) (by omega)
  have F2 := eq_same a b (by omega) (by omega)
  have G1 : Hid (a < b ↔ ((tip a).length < (tip b).length ∨ ((tip a).length = (tip b).length ∧ Op.bytesLess (tip a) (tip b) = true))) := F1
  have G2 : Hid ((((a : Int) == (b : Int)) == (tip a == tip b)) = true) := F2
  clear F1 F2
  go_enter Try.func5, Try.ntmps5
  go_wp2_with fail
  refine (zztip_any a w (by omega)).mono ?_
  rintro e w1 ⟨rfl, hb1⟩
  go_wp2_with fail
  refine (zztip_any b w1 (by omega)).mono ?_
  rintro e w2 ⟨rfl, hb2⟩
  have hb : Hid (Below w.heap.size w w2) := hb1.trans (hb2.mono hb1.size)
  clear hb1 hb2
  go_wp2_with fail
  all_goals first | (exfalso; exact way_e G1.out ‹_› ‹_›) | (exfalso; exact way_n G1.out ‹_› ‹_›) | (exfalso; exact way_l G1.out ‹_› ‹_›) | (go_ret; exact ⟨ret_bool G2.out, hb.out⟩)


set_option maxRecDepth 100000 in
theorem lifted (os : Os) (started : os.Started) (H : Type) (enc : TypeId × Value → H) :
    ReturnsInHanded {} Try.checked os 5 .any (Rows.fnTileIndexPathSortsShortlexAsIndicesSpec.pre6 enc Try.prog Try.f5 Rows.fnTileIndexPathSortsShortlexAsIndicesRow.domain false) (Rows.fnTileIndexPathSortsShortlexAsIndicesSpec.post enc Try.prog Try.f5 false true false false) := by
  refine returnsInHanded_of_change (C := Try.checked) own started (by kernel_rfl) Try.func5
    (ChangeSpec.witness6 (enc := enc) (C := Try.checked) false ⟨#[], #[.int .i64 0, .int .i64 0], []⟩ 8 (by kernel_rfl) (by kernel_rfl) (by kernel_rfl) (by kernel_rfl)) ?_
  intro W base args ds gs before hval0 hW hcnd _
  have hval : ∀ (j : Nat) t v, Try.f5.params[j]? = some t → args[j]? = some v → Value.okWide Try.prog W .any base t v := hval0
  have hW' := hW
  obtain ⟨p, q, hA0, hV, rfl, hfz, hnd⟩ := hW
  have hA : DataW.TrodAll enc Try.prog W 0 (fun _ => true) true Try.f5.params.toList args.toList ds p := hA0
  rw [Try.params5] at hA hval
  obtain ⟨v0, vs0, d0, ds0, p0, q0, hargs, rfl, rfl, h0, r0⟩ := trodAll_cons hA
  obtain ⟨v1, vs1, d1, ds1, p1, q1, rfl, rfl, rfl, h1, r1⟩ := trodAll_cons r0
  obtain ⟨rfl, rfl, rfl⟩ := trodAll_nil r1
  obtain rfl : args = #[v0, v1] := by cases args; simp_all
  obtain ⟨rfl, rfl⟩ := trodVars_none hV
  obtain ⟨a0, rfl, rfl, rfl, w0⟩ := open_int Try.underlying2 (hval 0 2 v0 rfl rfl) h0
  obtain ⟨a1, rfl, rfl, rfl, w1⟩ := open_int Try.underlying2 (hval 1 2 v1 rfl rfl) h1
  clear hA0 hval0
  simp only [List.append_nil] at hW'
  refine (walk a0 a1 w0 w1 W).mono fun e W' ⟨he, bel⟩ => ?_
  subst he
  exact ⟨_, rfl, _, _, _, [], [], [], hW', trodAll_mk1 (shut_bool Try.underlying4 _), (trodAll_cons_mk (shut_int Try.underlying2 w0) (trodAll_cons_mk (shut_int Try.underlying2 w1) trodAll_mk0)), rfl, bel.frame _, fun h => by cases h⟩

theorem over : Rows.fnTileIndexPathSortsShortlexAsIndicesRow.holds Try.pinned (OpenSpec.ofChange Rows.fnTileIndexPathSortsShortlexAsIndicesSpec) :=
  OpenClaim.holds_of_wide 5 Try.f5 rfl rfl rfl rfl rfl rfl rfl ⟨rfl, rfl, rfl, rfl, rfl⟩ rfl rfl rfl rfl rfl (by kernel_rfl) Try.func5 (by kernel_rfl)
    (of_decide_eq_true (by kernel_rfl)) (by unfold Func.isWrapper; first | (rw [if_pos (by decide +kernel)]; kernel_rfl) | (rw [if_neg (by decide +kernel)]; exact ⟨rfl, rfl⟩))
    (fun os started H enc _ => lifted os started H enc)

/-- THE STATEMENT -/
theorem proved : Rows.FnTileIndexPathSortsShortlexAsIndicesSaid :=
  over
end Go.Proofs.Qxb6606335a.fnTileIndexPathSortsShortlexAsIndices
