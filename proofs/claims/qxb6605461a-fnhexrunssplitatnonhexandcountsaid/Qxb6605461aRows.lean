/-
  No cell of these rows narrows 'for every input' (looked for: loops, veiled, ifaces, maps, wideKeys, modest, calm, conditions, laid).
  DERIVED. THE GIVEN ROWS OF THIS SEAT. 1 by the template 'for every input the law returns true; each argument reads behind the call as it read before'; 0 by the template 'total and deterministic' (their statements: Qxb6605461aTotals.lean).
  GIVEN WITH THE SEED: the statements are not yours to turn. If you find one false, say at which input.
  Laid BY PROGRAM, IN A SANDBOX (cutbox-rows.mjs): the forced cells as the released guide's own fill.sh prints them over the translation 4613f05b5739fa61… (all of the seat's roots in one cut). By AI agents, Wed Nov 11 2026. No macro, syntax, notation, axiom, sorry.
-/
import Derived.Test.Qxb6605461aChecked
import GoSem.Claim
import GoSem.ClaimJoined
import GoSem.ClaimMapViews
import Derived.JoinedTies
import Derived.KernelRfl
namespace Go.Proofs.Qxb6605461a
/- THE CELL 'sum', in the pinned program and in every row, IS THE sha256 OF THE DUMP (.gsa) THAT Qxb6605461aProg.lean LOADS. Nothing in Lean hashes anything: it is a label: what it is worth is what the hold of that sum in a sandbox is worth. -/
noncomputable def Try.pinned : Pinned := { name := "qxb6605461a", sum := "4613f05b5739fa61ed513cbe02795ccb1ce588d321fee6a102abcbe2775bc732", checked := Try.checked }
namespace Rows
def none {H : Type} : Left H := { results := [], args := [] }

/-- 'zzlaws_saga_b1.FnHexRunsSplitAtNonHexAndCount': WHATEVER THE INPUT: true; the input reads as it did. -/
def fnHexRunsSplitAtNonHexAndCountSpec : ChangeSpec := { name := "fnHexRunsSplitAtNonHexAndCount", fn := fun _ => fun
  | [d1, d2] => { results := [.lit (.bool true)], args := [d1, d2] }
  | _ => none }
def fnHexRunsSplitAtNonHexAndCountRow : OpenClaim := { program := "qxb6605461a", sum := "4613f05b5739fa61ed513cbe02795ccb1ce588d321fee6a102abcbe2775bc732", func := "example.com/compensare/compensare/zzlaws_saga_b1.FnHexRunsSplitAtNonHexAndCount", spec := "fnHexRunsSplitAtNonHexAndCount", apart := false }
def FnHexRunsSplitAtNonHexAndCountSaid : Prop := fnHexRunsSplitAtNonHexAndCountRow.holds Try.pinned (OpenSpec.ofChange fnHexRunsSplitAtNonHexAndCountSpec)

/-- ITS FALSE NEIGHBOUR: 'it returns false'. Refute it at one input. -/
def fnHexRunsSplitAtNonHexAndCountWrong : ChangeSpec := { name := "fnHexRunsSplitAtNonHexAndCount", fn := fun _ => fun
  | [d1, d2] => { results := [.lit (.bool false)], args := [d1, d2] }
  | _ => none }
def FnHexRunsSplitAtNonHexAndCountWrongFalsely : Prop := fnHexRunsSplitAtNonHexAndCountRow.holds Try.pinned (OpenSpec.ofChange fnHexRunsSplitAtNonHexAndCountWrong)

end Rows
end Go.Proofs.Qxb6605461a
