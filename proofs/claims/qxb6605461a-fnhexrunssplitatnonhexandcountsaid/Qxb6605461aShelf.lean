/-
  The shelf's contract of stringslite.Clone at this program, in plain words (written by the kit's lay-shelf and lay-plain, the names turned).
-/
import Derived.Shelf.LaysM
import Derived.Shelf.Strconv.Clone
import Derived.Test.Qxb6605461aRows
namespace Go.Proofs.Qxb6605461a
open Go.Shelf
def laysM316_ren : Go.Shelf.Ren := ⟨fun | 316 => 12 | n => n, fun | 9 => 9 | 3 => 3 | 4 => 4 | 37 => 29 | 0 => 0 | 127 => 30 | 5 => 5 | n => n, fun | n => n⟩
theorem laysM316 : Go.Proofs.LaysM.n316 Try.prog laysM316_ren := {
  mixed := by kernel_rfl
  f316 := Try.func12.trans (congrArg some (by kernel_rfl))
  t0 := Try.underlying0
  a0 := Try.isAgg0
  z0 := Try.sizeOf0
  v0 := Try.zeroValue0
  t3 := Try.underlying3
  a3 := Try.isAgg3
  z3 := Try.sizeOf3
  v3 := Try.zeroValue3
  t4 := Try.underlying4
  a4 := Try.isAgg4
  z4 := Try.sizeOf4
  v4 := Try.zeroValue4
  t9 := Try.underlying9
  a9 := Try.isAgg9
  z9 := Try.sizeOf9
  v9 := Try.zeroValue9
  t37 := Try.underlying29
  a37 := Try.isAgg29
  z37 := Try.sizeOf29
  v37 := Try.zeroValue29
  t127 := Try.underlying30
  a127 := Try.isAgg30
  z127 := Try.sizeOf30
  v127 := Try.zeroValue30
  t5 := Try.underlying5
  a5 := Try.isAgg5
  z5 := Try.sizeOf5
  v5 := Try.zeroValue5
  i0 := by kernel_rfl
  i3 := by kernel_rfl
  i4 := by kernel_rfl
  i5 := by kernel_rfl
  i9 := by kernel_rfl
  i37 := by kernel_rfl
  i127 := by kernel_rfl }
open Go.RowKit in
/-- internal/stringslite.Clone (what strings.Clone calls): "Clone returns a fresh copy of s.": THE SAME BYTES. Of what was there nothing has turned (a new row is laid, and frozen, where s is not empty). (LAID: no walk: one application.) -/
theorem stringslite_Clone (s : ByteArray) (w : World) (hlim : s.size ≤ 281474976710656) :
    Calls Try.prog 12 #[.string s] w fun e w' => e = .returned (.string s) ∧ Below w.heap.size w w' := Any.stringslite_Clone laysM316 s w hlim
end Go.Proofs.Qxb6605461a
