/-
  No cell of these rows narrows 'for every input' (looked for: loops, veiled, ifaces, maps, wideKeys, modest, calm, conditions, laid).
  DERIVED. THE GIVEN ROWS OF THIS SEAT. 4 by the template 'for every input the law returns true; each argument reads behind the call as it read before'; 0 by the template 'total and deterministic' (their statements: Qxb6606335aTotals.lean).
  GIVEN WITH THE SEED: the statements are not yours to turn. If you find one false, say at which input.
  Laid BY PROGRAM, IN A SANDBOX (cutbox-rows.mjs): the forced cells as the released guide's own fill.sh prints them over the translation 6f3bdcba2a5da33f… (all of the seat's roots in one cut). By AI agents, Wed Nov 11 2026. No macro, syntax, notation, axiom, sorry.
-/
import Derived.Test.Qxb6606335aChecked
import GoSem.Claim
import GoSem.ClaimJoined
import GoSem.ClaimMapViews
import Derived.JoinedTies
import Derived.KernelRfl
namespace Go.Proofs.Qxb6606335a
/- THE CELL 'sum', in the pinned program and in every row, IS THE sha256 OF THE DUMP (.gsa) THAT Qxb6606335aProg.lean LOADS. Nothing in Lean hashes anything: it is a label: what it is worth is what the hold of that sum in a sandbox is worth. -/
noncomputable def Try.pinned : Pinned := { name := "qxb6606335a", sum := "6f3bdcba2a5da33fa8b81b4538cf035f1705ee1a6f3003933eb1dc3599e77d30", checked := Try.checked }
namespace Rows
def none {H : Type} : Left H := { results := [], args := [] }

/-- 'zzlaws_internal_tlogtiles_b1.FnTileIndexPathMatchesPaddedDecimalChunks': WHATEVER THE INPUT: true; the input reads as it did. -/
def fnTileIndexPathMatchesPaddedDecimalChunksSpec : ChangeSpec := { name := "fnTileIndexPathMatchesPaddedDecimalChunks", fn := fun _ => fun
  | [d] => { results := [.lit (.bool true)], args := [d] }
  | _ => none }
def fnTileIndexPathMatchesPaddedDecimalChunksRow : OpenClaim := { program := "qxb6606335a", sum := "6f3bdcba2a5da33fa8b81b4538cf035f1705ee1a6f3003933eb1dc3599e77d30", func := "example.com/tilewright/tilewright/zzlaws_internal_tlogtiles_b1.FnTileIndexPathMatchesPaddedDecimalChunks", spec := "fnTileIndexPathMatchesPaddedDecimalChunks", unfollowed := true, recurses := true, apart := false }
def FnTileIndexPathMatchesPaddedDecimalChunksSaid : Prop := fnTileIndexPathMatchesPaddedDecimalChunksRow.holds Try.pinned (OpenSpec.ofChange fnTileIndexPathMatchesPaddedDecimalChunksSpec)

/-- ITS FALSE NEIGHBOUR: 'it returns false'. Refute it at one input. -/
def fnTileIndexPathMatchesPaddedDecimalChunksWrong : ChangeSpec := { name := "fnTileIndexPathMatchesPaddedDecimalChunks", fn := fun _ => fun
  | [d] => { results := [.lit (.bool false)], args := [d] }
  | _ => none }
def FnTileIndexPathMatchesPaddedDecimalChunksWrongFalsely : Prop := fnTileIndexPathMatchesPaddedDecimalChunksRow.holds Try.pinned (OpenSpec.ofChange fnTileIndexPathMatchesPaddedDecimalChunksWrong)

/-- 'zzlaws_internal_tlogtiles_b1.FnTileIndexPathReadsBackThroughIndexGroup': WHATEVER THE INPUT: true; the input reads as it did. -/
def fnTileIndexPathReadsBackThroughIndexGroupSpec : ChangeSpec := { name := "fnTileIndexPathReadsBackThroughIndexGroup", fn := fun _ => fun
  | [d] => { results := [.lit (.bool true)], args := [d] }
  | _ => none }
def fnTileIndexPathReadsBackThroughIndexGroupRow : OpenClaim := { program := "qxb6606335a", sum := "6f3bdcba2a5da33fa8b81b4538cf035f1705ee1a6f3003933eb1dc3599e77d30", func := "example.com/tilewright/tilewright/zzlaws_internal_tlogtiles_b1.FnTileIndexPathReadsBackThroughIndexGroup", spec := "fnTileIndexPathReadsBackThroughIndexGroup", unfollowed := true, recurses := true, apart := false }
def FnTileIndexPathReadsBackThroughIndexGroupSaid : Prop := fnTileIndexPathReadsBackThroughIndexGroupRow.holds Try.pinned (OpenSpec.ofChange fnTileIndexPathReadsBackThroughIndexGroupSpec)

/-- ITS FALSE NEIGHBOUR: 'it returns false'. Refute it at one input. -/
def fnTileIndexPathReadsBackThroughIndexGroupWrong : ChangeSpec := { name := "fnTileIndexPathReadsBackThroughIndexGroup", fn := fun _ => fun
  | [d] => { results := [.lit (.bool false)], args := [d] }
  | _ => none }
def FnTileIndexPathReadsBackThroughIndexGroupWrongFalsely : Prop := fnTileIndexPathReadsBackThroughIndexGroupRow.holds Try.pinned (OpenSpec.ofChange fnTileIndexPathReadsBackThroughIndexGroupWrong)

/-- 'zzlaws_internal_tlogtiles_b1.FnTileIndexPathSortsShortlexAsIndices': WHATEVER THE INPUT: true; the input reads as it did. -/
def fnTileIndexPathSortsShortlexAsIndicesSpec : ChangeSpec := { name := "fnTileIndexPathSortsShortlexAsIndices", fn := fun _ => fun
  | [d1, d2] => { results := [.lit (.bool true)], args := [d1, d2] }
  | _ => none }
def fnTileIndexPathSortsShortlexAsIndicesRow : OpenClaim := { program := "qxb6606335a", sum := "6f3bdcba2a5da33fa8b81b4538cf035f1705ee1a6f3003933eb1dc3599e77d30", func := "example.com/tilewright/tilewright/zzlaws_internal_tlogtiles_b1.FnTileIndexPathSortsShortlexAsIndices", spec := "fnTileIndexPathSortsShortlexAsIndices", unfollowed := true, recurses := true, apart := false }
def FnTileIndexPathSortsShortlexAsIndicesSaid : Prop := fnTileIndexPathSortsShortlexAsIndicesRow.holds Try.pinned (OpenSpec.ofChange fnTileIndexPathSortsShortlexAsIndicesSpec)

/-- ITS FALSE NEIGHBOUR: 'it returns false'. Refute it at one input. -/
def fnTileIndexPathSortsShortlexAsIndicesWrong : ChangeSpec := { name := "fnTileIndexPathSortsShortlexAsIndices", fn := fun _ => fun
  | [d1, d2] => { results := [.lit (.bool false)], args := [d1, d2] }
  | _ => none }
def FnTileIndexPathSortsShortlexAsIndicesWrongFalsely : Prop := fnTileIndexPathSortsShortlexAsIndicesRow.holds Try.pinned (OpenSpec.ofChange fnTileIndexPathSortsShortlexAsIndicesWrong)

/-- 'zzlaws_internal_tlogtiles_b1.FnIndexGroupAcceptsExactlyThreeDigitPaths': WHATEVER THE INPUT: true; the input reads as it did. -/
def fnIndexGroupAcceptsExactlyThreeDigitPathsSpec : ChangeSpec := { name := "fnIndexGroupAcceptsExactlyThreeDigitPaths", fn := fun _ => fun
  | [d] => { results := [.lit (.bool true)], args := [d] }
  | _ => none }
def fnIndexGroupAcceptsExactlyThreeDigitPathsRow : OpenClaim := { program := "qxb6606335a", sum := "6f3bdcba2a5da33fa8b81b4538cf035f1705ee1a6f3003933eb1dc3599e77d30", func := "example.com/tilewright/tilewright/zzlaws_internal_tlogtiles_b1.FnIndexGroupAcceptsExactlyThreeDigitPaths", spec := "fnIndexGroupAcceptsExactlyThreeDigitPaths", unfollowed := true, recurses := true, apart := false }
def FnIndexGroupAcceptsExactlyThreeDigitPathsSaid : Prop := fnIndexGroupAcceptsExactlyThreeDigitPathsRow.holds Try.pinned (OpenSpec.ofChange fnIndexGroupAcceptsExactlyThreeDigitPathsSpec)

/-- ITS FALSE NEIGHBOUR: 'it returns false'. Refute it at one input. -/
def fnIndexGroupAcceptsExactlyThreeDigitPathsWrong : ChangeSpec := { name := "fnIndexGroupAcceptsExactlyThreeDigitPaths", fn := fun _ => fun
  | [d] => { results := [.lit (.bool false)], args := [d] }
  | _ => none }
def FnIndexGroupAcceptsExactlyThreeDigitPathsWrongFalsely : Prop := fnIndexGroupAcceptsExactlyThreeDigitPathsRow.holds Try.pinned (OpenSpec.ofChange fnIndexGroupAcceptsExactlyThreeDigitPathsWrong)

end Rows
end Go.Proofs.Qxb6606335a
