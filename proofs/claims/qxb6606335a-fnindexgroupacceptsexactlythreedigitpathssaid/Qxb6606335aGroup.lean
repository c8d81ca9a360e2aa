/-
  tileIndexPath's closure 'group' (function 15) by a contract of its own; 'Tip': the call's own memory: the array of 33 bytes and the index variable.
-/
import Derived.Test.Qxb6606335aRows
import Derived.Test.Qxb6606335aPlain
import Derived.WalkKit
import Derived.ProofKit
import Derived.BigRegion
import Derived.WalkSpells
namespace Go.Proofs.Qxb6606335a
open Go.RowKit

def u8s (L : List UInt8) : Array Value := (L.map fun b => Value.int .u8 (b.toNat : Int)).toArray

structure Tip (N i : Nat) (L : List UInt8) (w : World) : Prop where
  len : L.length = 33
  arr : ∃ t, w.heap[N]? = some (.cells (u8s L) t (0, 0))
  ix : ∃ t, w.heap[N + 1]? = some (.cells #[.int .i64 (i : Int)] t (0, 0))

theorem Tip.cell {N i : Nat} {L : List UInt8} {w : World} (h : Tip N i L w) (j : Nat) (hj : j < L.length) : w.cell? ⟨N, j, none⟩ = some (.int .u8 (L[j].toNat : Int)) := by
  obtain ⟨t, ht⟩ := h.arr
  simp [World.cell?, ht, u8s, hj]
theorem Tip.free {N i : Nat} {L : List UInt8} {w : World} (h : Tip N i L w) (j : Nat) : w.frozen? ⟨N, j, none⟩ = false := by
  obtain ⟨t, ht⟩ := h.arr
  simp [World.frozen?, ht]
theorem Tip.cix {N i : Nat} {L : List UInt8} {w : World} (h : Tip N i L w) : w.cell? ⟨N + 1, 0, none⟩ = some (.int .i64 (i : Int)) := by
  obtain ⟨t, ht⟩ := h.ix
  exact cell_of_one ht
theorem Tip.fix {N i : Nat} {L : List UInt8} {w : World} (h : Tip N i L w) : w.frozen? ⟨N + 1, 0, none⟩ = false := by
  obtain ⟨t, ht⟩ := h.ix
  exact free_of_one ht
theorem Tip.lt {N i : Nat} {L : List UInt8} {w : World} (h : Tip N i L w) : N + 1 < w.heap.size := by
  obtain ⟨t, ht⟩ := h.ix
  exact lt_of_block ht
theorem heap_setCell_same {w : World} {b off : Nat} {c : Array Value} {t : TypeId} {fz : Nat × Nat} (h : w.heap[b]? = some (.cells c t fz)) (v : Value) : (w.setCell ⟨b, off, none⟩ v).heap[b]? = some (.cells (c.setIfInBounds off v) t fz) := by
  have hlt := lt_of_block h
  have h' : w.heap[b] = .cells c t fz := by simpa [Array.getElem?_eq_getElem hlt] using h
  show (w.heap.modify b _)[b]? = _
  rw [Array.getElem?_eq_getElem (by simpa using hlt), Array.getElem_modify_self, h']
  rfl
theorem Tip.put {N i : Nat} {L : List UInt8} {w : World} (h : Tip N i L w) (j : Nat) (b : UInt8) : Tip N i (L.set j b) (w.setCell ⟨N, j, none⟩ (.int .u8 (b.toNat : Int))) := by
  obtain ⟨hl, ⟨t, ha⟩, ⟨t', hi⟩⟩ := h
  refine ⟨by simpa using hl, ⟨t, ?_⟩, ⟨t', ?_⟩⟩
  · rw [heap_setCell_same ha]
    simp [u8s, List.map_set]
  · rw [Below.heap_setCell _ _ _ _ (by show N + 1 ≠ N; omega)]; exact hi
theorem Tip.go {N i : Nat} {L : List UInt8} {w : World} (h : Tip N i L w) (k : Nat) : Tip N k L (w.setCell ⟨N + 1, 0, none⟩ (.int .i64 (k : Int))) := by
  obtain ⟨hl, ⟨t, ha⟩, ⟨t', hi⟩⟩ := h
  refine ⟨hl, ⟨t, ?_⟩, ⟨t', one_setCell hi⟩⟩
  rw [Below.heap_setCell _ _ _ _ (by show N ≠ N + 1; omega)]; exact ha
theorem Tip.drew {N i : Nat} {L : List UInt8} {w : World} (h : Tip N i L w) : Tip N i L w.drew := ⟨h.len, h.arr, h.ix⟩

theorem u8_dgt (d : Nat) (h : d < 10) (z : Int) (hz : z = 48 + (d : Int)) : Value.int .u8 z = .int .u8 ((dgt d).toNat : Int) := by
  rw [dgt_toNat d h, hz]; push_cast; rfl

/-- what the closure leaves of the array -/
def grpSet (L : List UInt8) (i g : Nat) : List UInt8 := ((L.set i (dgt (g / 100))).set (i + 1) (dgt (g / 10 % 10))).set (i + 2) (dgt (g % 10))

set_option maxHeartbeats 1000000 in
theorem group_any (N i g : Nat) (L : List UInt8) (w : World) (hi : i + 3 ≤ 33) (g1 : g < 1000) (h : Tip N (i + 3) L w) :
    Calls Try.prog 15 #[.int .i64 (g : Int), .pointer (some ⟨N + 1, 0, none⟩), .pointer (some ⟨N, 0, none⟩)] w fun e w' => e = .returned (.tuple #[]) ∧ Tip N i (grpSet L i g) w' ∧ Below N w w' := by
  have hl := h.len
  have h0 := h.cell i (by omega)
  have h1 := h.cell (i + 1) (by omega)
  have h2 := h.cell (i + 2) (by omega)
  have hci := h.cix
  have hfi := h.fix
  have hfb := h.free
  have H : Hid (Tip N (i + 3) L w) := h
  clear h
  go_enter Try.func15, Try.ntmps15
  go_wp2
  go_region
  go_end0
  rw [u8_dgt (g / 100) (by omega) (48 + (g : Int) / 100) (by omega), u8_dgt (g / 10 % 10) (by omega) (48 + (g : Int) / 10 % 10) (by omega), u8_dgt (g % 10) (by omega) (48 + (g : Int) % 10) (by omega)]
  refine ⟨rfl, ((((H.out.go i).put i _).put (i + 1) _).put (i + 2) _).drew, ?_⟩
  exact ((((((Below.refl N w).setCell (by show N ≤ N + 1; omega) _).setCell (Nat.le_refl _) _).setCell (Nat.le_refl _) _).setCell (Nat.le_refl _) _)).drew
end Go.Proofs.Qxb6606335a
