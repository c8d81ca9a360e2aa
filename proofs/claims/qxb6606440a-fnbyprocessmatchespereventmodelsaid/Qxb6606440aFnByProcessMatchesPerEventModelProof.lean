/-
  The proof of 'Rows.FnByProcessMatchesPerEventModelSaid': the guide's frame (its template and its slices' shell) at this function's number and types; the walk is in Qxb6606440aLaw3.
-/
import Derived.Test.Qxb6606440aRows
import Derived.WalkKit
import Derived.ProofKit
import Derived.OpenShut
import Derived.ShutString
import Derived.ChangeOld
import Derived.Below
import Derived.Test.Qxb6606440aLaw3
namespace Go.Proofs.Qxb6606440a.fnByProcessMatchesPerEventModel
open Go.ChangeShapes Go.WideShapes Go.ChangeAt Go.RowKit
set_option linter.unusedVariables false

theorem own : ownKnob Try.prog.godebug = none := by kernel_rfl
theorem laidOut : laidOutB Try.prog = true := by kernel_rfl

set_option maxRecDepth 100000 in
theorem lifted (os : Os) (started : os.Started) (H : Type) (enc : TypeId × Value → H) :
    ReturnsInHanded {} Try.checked os 3 .any (Rows.fnByProcessMatchesPerEventModelSpec.pre6 enc Try.prog Try.f3 Rows.fnByProcessMatchesPerEventModelRow.domain false) (Rows.fnByProcessMatchesPerEventModelSpec.post enc Try.prog Try.f3 false true false false) := by
  refine returnsInHanded_of_change (C := Try.checked) own started (by kernel_rfl) Try.func3
    (ChangeSpec.witness6 (enc := enc) (C := Try.checked) false ⟨#[], #[.slice none 0 0, .slice none 0 0, .slice none 0 0, .slice none 0 0], []⟩ 8 (by kernel_rfl) (by kernel_rfl) (by kernel_rfl) (by kernel_rfl)) ?_
  intro W base args ds gs before hval0 hW hcnd _
  have hval : ∀ (j : Nat) t v, Try.f3.params[j]? = some t → args[j]? = some v → Value.okWide Try.prog W .any base t v := hval0
  have hW' := hW
  obtain ⟨p, q, hA0, hV, rfl, hfz, hnd⟩ := hW
  have hA : DataW.TrodAll enc Try.prog W 0 (fun _ => true) true Try.f3.params.toList args.toList ds p := hA0
  rw [Try.params3] at hA hval
  obtain ⟨v0, vs0, d0, ds0, p0, q0, hargs, rfl, rfl, h0, r0⟩ := trodAll_cons hA
  obtain ⟨v1, vs1, d1, ds1, p1, q1, rfl, rfl, rfl, h1, r1⟩ := trodAll_cons r0
  obtain ⟨v2, vs2, d2, ds2, p2, q2, rfl, rfl, rfl, h2, r2⟩ := trodAll_cons r1
  obtain ⟨v3, vs3, d3, ds3, p3, q3, rfl, rfl, rfl, h3, r3⟩ := trodAll_cons r2
  obtain ⟨rfl, rfl, rfl⟩ := trodAll_nil r3
  obtain rfl : args = #[v0, v1, v2, v3] := by cases args; simp_all
  obtain ⟨rfl, rfl⟩ := trodVars_none hV
  obtain ⟨a0, l0, c0, e0⟩ := okWide_slice Try.underlying22 (hval 0 22 v0 rfl rfl)
  have lt0 : ∀ x ∈ p0, x.block < W.heap.size := by obtain ⟨m, hm⟩ := h0; exact DataW.trod_lt m _ _ _ hm
  have k0 := h0
  obtain ⟨n0, f0⟩ := h0
  rw [e0] at f0
  replace f0 : DataW.trod enc Try.prog W 0 (fun _ => true) true n0 22 [v0] = some (d0, p0) := by rw [e0]; exact f0
  clear e0 a0 l0 c0
  obtain ⟨a1, l1, c1, e1⟩ := okWide_slice Try.underlying23 (hval 1 23 v1 rfl rfl)
  have lt1 : ∀ x ∈ p1, x.block < W.heap.size := by obtain ⟨m, hm⟩ := h1; exact DataW.trod_lt m _ _ _ hm
  have k1 := h1
  obtain ⟨n1, f1⟩ := h1
  rw [e1] at f1
  replace f1 : DataW.trod enc Try.prog W 0 (fun _ => true) true n1 23 [v1] = some (d1, p1) := by rw [e1]; exact f1
  clear e1 a1 l1 c1
  obtain ⟨a2, l2, c2, e2⟩ := okWide_slice Try.underlying24 (hval 2 24 v2 rfl rfl)
  have lt2 : ∀ x ∈ p2, x.block < W.heap.size := by obtain ⟨m, hm⟩ := h2; exact DataW.trod_lt m _ _ _ hm
  have k2 := h2
  obtain ⟨n2, f2⟩ := h2
  rw [e2] at f2
  replace f2 : DataW.trod enc Try.prog W 0 (fun _ => true) true n2 24 [v2] = some (d2, p2) := by rw [e2]; exact f2
  clear e2 a2 l2 c2
  obtain ⟨a3, l3, c3, e3⟩ := okWide_slice Try.underlying25 (hval 3 25 v3 rfl rfl)
  have lt3 : ∀ x ∈ p3, x.block < W.heap.size := by obtain ⟨m, hm⟩ := h3; exact DataW.trod_lt m _ _ _ hm
  have k3 := h3
  obtain ⟨n3, f3⟩ := h3
  rw [e3] at f3
  replace f3 : DataW.trod enc Try.prog W 0 (fun _ => true) true n3 25 [v3] = some (d3, p3) := by rw [e3]; exact f3
  clear e3 a3 l3 c3
  obtain ⟨pa, pl, pc, pb, po, S, rfl, hS⟩ := open_strs' f0
  obtain ⟨ao, len, cap, b, off, E, rfl, hE⟩ := open_evs f1
  obtain ⟨la, ll, lc, lb, lo, Z, rfl, hZ⟩ := open_ints' (k := .u64) Try.underlying24 Try.underlying35 cells35 f2
  obtain ⟨ra, rl, rc, rb, ro, R, rfl, hR⟩ := open_ints' (k := .i64) Try.underlying25 Try.underlying3 cells3 f3
  clear hA0 hval0
  refine (law3 pa pl pc pb po S ao len cap b off E la ll lc lb lo Z ra rl rc rb ro R W hS hE hZ hR).mono fun e W' he => ?_
  obtain ⟨he, bel⟩ := he
  subst he
  exact ⟨_, rfl, _, _, _, [], _, [], hW', trodAll_mk1 (shut_bool Try.underlying4 _), (trodAll_cons_mk (Below.trod laidOut (by kernel_rfl) (of_decide_eq_true (by kernel_rfl)) k0 bel lt0) (trodAll_cons_mk (Below.trod laidOut (by kernel_rfl) (of_decide_eq_true (by kernel_rfl)) k1 bel lt1) (trodAll_cons_mk (Below.trod laidOut (by kernel_rfl) (of_decide_eq_true (by kernel_rfl)) k2 bel lt2) (trodAll_cons_mk (Below.trod laidOut (by kernel_rfl) (of_decide_eq_true (by kernel_rfl)) k3 bel lt3) trodAll_mk0)))), rfl, bel.frame _, fun h => by cases h⟩

theorem over : Rows.fnByProcessMatchesPerEventModelRow.holds Try.pinned (OpenSpec.ofChange Rows.fnByProcessMatchesPerEventModelSpec) :=
  OpenClaim.holds_of_wide 3 Try.f3 rfl rfl rfl rfl rfl rfl rfl ⟨rfl, rfl, rfl, rfl, rfl⟩ rfl rfl rfl rfl rfl (by kernel_rfl) Try.func3 (by kernel_rfl)
    (of_decide_eq_true (by kernel_rfl)) (by unfold Func.isWrapper; first | (rw [if_pos (by decide +kernel)]; kernel_rfl) | (rw [if_neg (by decide +kernel)]; exact ⟨rfl, rfl⟩))
    (fun os started H enc _ => lifted os started H enc)

/-- THE STATEMENT -/
theorem proved : Rows.FnByProcessMatchesPerEventModelSaid := over
end Go.Proofs.Qxb6606440a.fnByProcessMatchesPerEventModel
