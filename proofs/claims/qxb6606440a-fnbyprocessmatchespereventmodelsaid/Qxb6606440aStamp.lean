/-
  zzToStamp (function 16): it hands back some slice and makes new memory only.
-/
import Derived.Test.Qxb6606440aOpen
import Derived.WalkSpells
import Derived.WalkLawsBesides
import Derived.BigRegion
namespace Go.Proofs.Qxb6606440a
open Go.RowKit

/-- block G is a row of n cells that may be written -/
def Size (w : World) (G n : Nat) : Prop := ∃ cur t, w.heap[G]? = some (.cells cur t (0, 0)) ∧ cur.size = n
theorem Size.cell {w : World} {G n : Nat} (h : Size w G n) (j : Nat) (hj : j < n) : ∃ v, w.cell? ⟨G, j, none⟩ = some v := by
  obtain ⟨cur, t, hc, rfl⟩ := h
  exact ⟨cur[j], by simp [World.cell?, hc, hj]⟩
theorem Size.free {w : World} {G n : Nat} (h : Size w G n) (j : Nat) : w.frozen? ⟨G, j, none⟩ = false := by
  obtain ⟨cur, t, hc, rfl⟩ := h
  simp [World.frozen?, hc]
theorem blk_set {w : World} {b off : Nat} {c : Array Value} {t : TypeId} {fz : Nat × Nat} (h : w.heap[b]? = some (.cells c t fz)) (v : Value) : (w.setCell ⟨b, off, none⟩ v).heap[b]? = some (.cells (c.setIfInBounds off v) t fz) := by
  have hlt := lt_of_block h
  have h' : w.heap[b] = .cells c t fz := by simpa [Array.getElem?_eq_getElem hlt] using h
  show (w.heap.modify b _)[b]? = _
  rw [Array.getElem?_eq_getElem (by simpa using hlt), Array.getElem_modify_self, h']
  rfl
theorem Size.set {w : World} {G n : Nat} (h : Size w G n) (j : Nat) (v : Value) : Size (w.setCell ⟨G, j, none⟩ v) G n := by
  obtain ⟨cur, t, hc, rfl⟩ := h
  exact ⟨_, t, blk_set hc v, by simp⟩
theorem Size.drew {w : World} {G n : Nat} (h : Size w G n) : Size w.drew G n := h

theorem info59 : (Try.prog.info? 59).map (fun i => (i.zero, i.size, i.bytes)) = some (some (.agg #[.int .i64 0, .int .u64 0]), 2, 16) := by kernel_rfl

/-- some slice comes back; below the heap's old size nothing has turned -/
def SaysSlice (w : World) (e : Ending) (w' : World) : Prop := ∃ a l c, e = .returned (.slice a l c) ∧ Below w.heap.size w w'
theorem SaysSlice.mk' {w w' : World} {a : Option Addr} {l c : Nat} (h : Below w.heap.size w w') : SaysSlice w (.returned (.slice a l c)) w' := ⟨a, l, c, rfl, h⟩

set_option maxHeartbeats 1000000 in
theorem stamp_any (ao : Option Addr) (len cap : Nat) (w : World) (h : Clk w ao len cap) (hl : len ≤ 1048576) :
    Calls Try.prog 16 #[.slice ao len cap] w (SaysSlice w) := by
  have q34 : ∀ (w : World) (a : Option Addr) (n c n' c' : Nat), (binOp .eql 34 (.slice a n c) (.slice none n' c')).run Try.prog w = .ok (.bool a.isNone) w := fun w a n c n' c' => Lib.run_eql_slice_nil w _ _ a n c n' c' Try.underlying34
  obtain ⟨cb, coff, Z, U, hr⟩ := h
  cases ao with
  | none =>
    go_enter Try.func16, Try.ntmps16
    go_wp2_with fail
    go_ret
    exact SaysSlice.mk' (Below.refl _ _)
  | some a =>
    obtain ⟨i0, hi, hz0, hz1, hz2⟩ := info_parts info59
    go_enter Try.func16, Try.ntmps16
    go_wp2_with (at_make; refine wpList_make_full _ rfl _ _ 49 rfl w.heap.size 59 i0 (.agg #[.int .i64 0, .int .u64 0]) 2 Try.underlying49 hi hz0 hz1 .i64 .i64 (len : Int) (len : Int) len rfl rfl rfl rfl (by rw [hz2]; omega) (by unfold maxLen; omega) (Nat.le_refl _) ?_)
    intro w1 hown hgrow
    have hb : Below w.heap.size w w1 := (Below.refl _ w).grown hgrow (Nat.le_refl _) (fun _ h => by cases h)
    have hsz : Size w1 w.heap.size (len * 2) := by
      rcases hown.2 with ⟨h, _⟩ | ⟨g, cap', cur, h, _, hg, _, _, hcs, _⟩
      · simp at h
      · simp only [Value.slice.injEq, Option.some.injEq, Addr.mk.injEq, and_true, true_and] at h
        obtain ⟨rfl, rfl⟩ := h
        exact ⟨cur, 59, hg, hcs⟩
    clear hown hgrow
    go_wp2_with fail
    go_loopw [4] (fun t wr => ∃ i : Nat, i ≤ len ∧ t = .int .i64 (i : Int) ∧ Size wr w.heap.size (len * 2) ∧ Below w.heap.size w wr) (fun t _ => len - (intOf t).toNat)
    case atStart => exact ⟨0, Nat.zero_le _, rfl, hsz, hb⟩
    case round =>
      obtain ⟨i, hi, rfl, hs, hbw⟩ := hrel
      clear hsz hb
      by_cases hlt : i < len
      · have ha := hr.ad (by omega)
        simp only [Option.some.injEq] at ha
        subst ha
        have hr' := hr.below hbw
        have c0 := hr'.at0 i hlt rfl
        have c1 := hr'.atj i hlt 1 rfl
        obtain ⟨v0, d0⟩ := hs.cell (i * 2) (by omega)
        obtain ⟨v1, d1⟩ := hs.cell (i * 2 + 1) (by omega)
        have f0 := hs.free (i * 2)
        have f1 := hs.free (i * 2 + 1)
        clear hr' hr
        go_wp2_with fail
        go_region
        go_wp2_with fail
        go_roundw
        case rel => exact ⟨i + 1, by omega, by go_num, ((hs.set _ _).set _ _).drew, ((hbw.setCell (Nat.le_refl _) _).setCell (Nat.le_refl _) _).drew⟩
        case measure => simp [intOf]; omega
      · go_wp2_with fail
        go_ret
        exact SaysSlice.mk' hbw
end Go.Proofs.Qxb6606440a
