/-
  No cell of these rows narrows 'for every input' (looked for: loops, veiled, ifaces, maps, wideKeys, modest, calm, conditions, laid).
  DERIVED. THE GIVEN ROWS OF THIS SEAT. 3 by the template 'for every input the law returns true; each argument reads behind the call as it read before'; 0 by the template 'total and deterministic' (their statements: Qxb6606440aTotals.lean).
  GIVEN WITH THE SEED: the statements are not yours to turn. If you find one false, say at which input.
  Laid BY PROGRAM, IN A SANDBOX (cutbox-rows.mjs): the forced cells as the released guide's own fill.sh prints them over the translation f6826489ca0b06d1… (all of the seat's roots in one cut). By AI agents, Wed Nov 11 2026. No macro, syntax, notation, axiom, sorry.
-/
import Derived.Test.Qxb6606440aChecked
import GoSem.Claim
import GoSem.ClaimJoined
import GoSem.ClaimMapViews
import Derived.JoinedTies
import Derived.KernelRfl
namespace Go.Proofs.Qxb6606440a
/- THE CELL 'sum', in the pinned program and in every row, IS THE sha256 OF THE DUMP (.gsa) THAT Qxb6606440aProg.lean LOADS. Nothing in Lean hashes anything: it is a label: what it is worth is what the hold of that sum in a sandbox is worth. -/
noncomputable def Try.pinned : Pinned := { name := "qxb6606440a", sum := "f6826489ca0b06d1b5418fcf8d3300b13ab90c08d792fabed057618485af4720", checked := Try.checked }
namespace Rows
def none {H : Type} : Left H := { results := [], args := [] }

/-- 'zzlaws_trace_b1.FnByProcessMatchesPerEventModel': WHATEVER THE INPUT: true; the input reads as it did. -/
def fnByProcessMatchesPerEventModelSpec : ChangeSpec := { name := "fnByProcessMatchesPerEventModel", fn := fun _ => fun
  | [d1, d2, d3, d4] => { results := [.lit (.bool true)], args := [d1, d2, d3, d4] }
  | _ => none }
def fnByProcessMatchesPerEventModelRow : OpenClaim := { program := "qxb6606440a", sum := "f6826489ca0b06d1b5418fcf8d3300b13ab90c08d792fabed057618485af4720", func := "example.com/happenstance/happenstance/zzlaws_trace_b1.FnByProcessMatchesPerEventModel", spec := "fnByProcessMatchesPerEventModel", apart := false }
def FnByProcessMatchesPerEventModelSaid : Prop := fnByProcessMatchesPerEventModelRow.holds Try.pinned (OpenSpec.ofChange fnByProcessMatchesPerEventModelSpec)

/-- ITS FALSE NEIGHBOUR: 'it returns false'. Refute it at one input. -/
def fnByProcessMatchesPerEventModelWrong : ChangeSpec := { name := "fnByProcessMatchesPerEventModel", fn := fun _ => fun
  | [d1, d2, d3, d4] => { results := [.lit (.bool false)], args := [d1, d2, d3, d4] }
  | _ => none }
def FnByProcessMatchesPerEventModelWrongFalsely : Prop := fnByProcessMatchesPerEventModelRow.holds Try.pinned (OpenSpec.ofChange fnByProcessMatchesPerEventModelWrong)

/-- 'zzlaws_trace_b1.FnByProcessWithReadersPartitionsEvents': WHATEVER THE INPUT: true; the input reads as it did. -/
def fnByProcessWithReadersPartitionsEventsSpec : ChangeSpec := { name := "fnByProcessWithReadersPartitionsEvents", fn := fun _ => fun
  | [d1, d2, d3] => { results := [.lit (.bool true)], args := [d1, d2, d3] }
  | _ => none }
def fnByProcessWithReadersPartitionsEventsRow : OpenClaim := { program := "qxb6606440a", sum := "f6826489ca0b06d1b5418fcf8d3300b13ab90c08d792fabed057618485af4720", func := "example.com/happenstance/happenstance/zzlaws_trace_b1.FnByProcessWithReadersPartitionsEvents", spec := "fnByProcessWithReadersPartitionsEvents", apart := false }
def FnByProcessWithReadersPartitionsEventsSaid : Prop := fnByProcessWithReadersPartitionsEventsRow.holds Try.pinned (OpenSpec.ofChange fnByProcessWithReadersPartitionsEventsSpec)

/-- ITS FALSE NEIGHBOUR: 'it returns false'. Refute it at one input. -/
def fnByProcessWithReadersPartitionsEventsWrong : ChangeSpec := { name := "fnByProcessWithReadersPartitionsEvents", fn := fun _ => fun
  | [d1, d2, d3] => { results := [.lit (.bool false)], args := [d1, d2, d3] }
  | _ => none }
def FnByProcessWithReadersPartitionsEventsWrongFalsely : Prop := fnByProcessWithReadersPartitionsEventsRow.holds Try.pinned (OpenSpec.ofChange fnByProcessWithReadersPartitionsEventsWrong)

/-- 'zzlaws_trace_b1.FnByProcessMaxJumpBoundsFinal': WHATEVER THE INPUT: true; the input reads as it did. -/
def fnByProcessMaxJumpBoundsFinalSpec : ChangeSpec := { name := "fnByProcessMaxJumpBoundsFinal", fn := fun _ => fun
  | [d1, d2, d3, d4] => { results := [.lit (.bool true)], args := [d1, d2, d3, d4] }
  | _ => none }
def fnByProcessMaxJumpBoundsFinalRow : OpenClaim := { program := "qxb6606440a", sum := "f6826489ca0b06d1b5418fcf8d3300b13ab90c08d792fabed057618485af4720", func := "example.com/happenstance/happenstance/zzlaws_trace_b1.FnByProcessMaxJumpBoundsFinal", spec := "fnByProcessMaxJumpBoundsFinal", apart := false }
def FnByProcessMaxJumpBoundsFinalSaid : Prop := fnByProcessMaxJumpBoundsFinalRow.holds Try.pinned (OpenSpec.ofChange fnByProcessMaxJumpBoundsFinalSpec)

/-- ITS FALSE NEIGHBOUR: 'it returns false'. Refute it at one input. -/
def fnByProcessMaxJumpBoundsFinalWrong : ChangeSpec := { name := "fnByProcessMaxJumpBoundsFinal", fn := fun _ => fun
  | [d1, d2, d3, d4] => { results := [.lit (.bool false)], args := [d1, d2, d3, d4] }
  | _ => none }
def FnByProcessMaxJumpBoundsFinalWrongFalsely : Prop := fnByProcessMaxJumpBoundsFinalRow.holds Try.pinned (OpenSpec.ofChange fnByProcessMaxJumpBoundsFinalWrong)

end Rows
end Go.Proofs.Qxb6606440a
