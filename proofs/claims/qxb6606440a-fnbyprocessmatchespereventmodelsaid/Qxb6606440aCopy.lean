/-
  'zzc := make([]T, len(x)); copy(zzc, x)' as the walk takes it; a row of uint64 of the call's own.
-/
import Derived.Test.Qxb6606440aStamp
import Derived.Laws.IdiomCopy
namespace Go.Proofs.Qxb6606440a
open Go.RowKit

theorem setCells_size (g : Nat) : ∀ (vs : List Value) (o : Nat) (w : World), (w.setCells g o vs).heap.size = w.heap.size
  | [], _, _ => rfl
  | v :: r, o, w => by rw [World.setCells, setCells_size g r]; simp [World.setCell]
theorem setCells_below (g : Nat) : ∀ (vs : List Value) (o : Nat) (w : World), Below g w (w.setCells g o vs)
  | [], _, _ => Below.refl _ _
  | v :: r, o, w => ((Below.refl g w).setCell (show g ≤ (⟨g, o, none⟩ : Addr).block from Nat.le_refl _) v).trans (setCells_below g r (o + 1) _)
theorem copy_run (T ty e : TypeId) (hu : Try.prog.underlying T = some (.slice e)) (hsz : (Try.prog.info? e).map (·.size) = some 1)
    (k : IntKind) (la : Option Addr) (len lc lb lo : Nat) (Z : Nat → Int) (w : World) (hZ : Ints k w la len lc lb lo Z) (g : Nat) (hs : Size w g len) :
    ∃ w', (Builtin.copy_ #[T, T] ty #[.slice (some ⟨g, 0, none⟩) len len, .slice la len lc]).run Try.prog w = .ok (.int .i64 (len : Int)) w' ∧ Ints k w' (some ⟨g, 0, none⟩) len len g 0 Z ∧ Below g w w' := by
  have hs0 := hs
  obtain ⟨cur, t, hg, hcs⟩ := hs
  have hlc := hZ.row.le
  have hcm := hZ.row.capm
  have hlen : ((List.range len).map fun i => Value.int k (Z i)).length = len := by simp
  have hgl := lt_of_block hg
  by_cases h0 : len = 0
  · subst h0
    refine ⟨w, run_copy_none w T T ty e _ _ 0 0 0 lc hu hsz rfl, ⟨⟨Nat.le_refl _, Nat.zero_le _, fun h => (by cases h), fun _ => rfl, fun _ => hgl, fun i hi => by omega⟩, fun i hi => by omega⟩, Below.refl _ _⟩
  · have ha := hZ.row.ad (by omega)
    subst ha
    have hrun := run_copy_cells (P := Try.prog) w T T ty e g 0 len len ⟨lb, lo, none⟩ len lc ((List.range len).map fun i => Value.int k (Z i)) hu hsz (by rw [hlen]; exact (Nat.min_self len).symm)
      (fun j v hv => by
        have hj : j < len := by have := (List.getElem?_eq_some_iff.1 hv).1; omega
        rw [Addr.add_lit, hZ.at j hj, ← hv]
        simp [hj])
      (fun j hj => by
        obtain ⟨v, hv⟩ := hs0.cell (0 + j) (by omega)
        rw [hv]; rfl)
      (fun j _ => hs0.free _)
      (fun v hv => by simp at hv; obtain ⟨i, _, rfl⟩ := hv; rfl)
    rw [hlen] at hrun
    refine ⟨_, hrun, ⟨⟨Nat.le_refl _, by omega, fun h => (by cases h), fun _ => rfl, fun _ => ?_, fun i hi j v hv => ?_⟩, hZ.ok⟩, ?_⟩
    · rw [setCells_size]; exact hgl
    · have hj0 : j = 0 := by
        have := (List.getElem?_eq_some_iff.1 hv).1
        simpa using this
      subst hj0
      have hv' : Value.int k (Z i) = v := by simpa using hv
      have := World.cell?_setCells_in g ((List.range len).map fun i => Value.int k (Z i)) 0 w (fun j hj => by
        obtain ⟨v, hv⟩ := hs0.cell (0 + j) (by omega)
        rw [hv]; rfl) i (by omega)
      simp only [Nat.mul_one, Nat.add_zero]
      rw [this, ← hv']
      simp
    · exact setCells_below g _ 0 w

/-- block G holds n numbers of the kind uint64 -/
structure Nums (w : World) (G n : Nat) (f : Nat → Int) : Prop where
  size : Size w G n
  cell : ∀ p, p < n → w.cell? ⟨G, p, none⟩ = some (.int .u64 (f p))
theorem Nums.put {w : World} {G n : Nat} {f f' : Nat → Int} (h : Nums w G n f) (q : Nat) (x : Int) (hf : ∀ p, p < n → f' p = if p = q then x else f p) : Nums (w.setCell ⟨G, q, none⟩ (.int .u64 x)) G n f' := by
  refine ⟨h.size.set _ _, fun p hp => ?_⟩
  rw [hf p hp]
  by_cases e : p = q
  · subst e
    rw [if_pos rfl, World.cell?_setCell_same' _ _ _ (by rw [h.cell p hp]; rfl)]
  · rw [if_neg e, World.cell?_setCell_other _ _ _ _ (fun e' => by simp only [Addr.mk.injEq, true_and, and_true] at e'; omega)]
    exact h.cell p hp
theorem Nums.drew {w : World} {G n : Nat} {f : Nat → Int} (h : Nums w G n f) : Nums w.drew G n f := ⟨h.size.drew, h.cell⟩

theorem info35 : (Try.prog.info? 35).map (fun i => (i.zero, i.size, i.bytes)) = some (some (.int .u64 0), 1, 8) := by kernel_rfl
theorem info3 : (Try.prog.info? 3).map (fun i => (i.zero, i.size, i.bytes)) = some (some (.int .i64 0), 1, 8) := by kernel_rfl
theorem size35 : (Try.prog.info? 35).map (·.size) = some 1 := by kernel_rfl
theorem size3 : (Try.prog.info? 3).map (·.size) = some 1 := by kernel_rfl

theorem made_size {w1 : World} {base e n : Nat} {k : Nat} {xs : List Value} {g : Nat} (h : w1.ownsRow base e k (.slice (some ⟨g, 0, none⟩) n n) n xs) : Size w1 g (n * k) := by
  rcases h.2 with ⟨h, _⟩ | ⟨g', cap', cur, h, _, hg, _, _, hcs, _⟩
  · simp at h
  · simp only [Value.slice.injEq, Option.some.injEq, Addr.mk.injEq, and_true, true_and] at h
    obtain ⟨rfl, rfl⟩ := h
    exact ⟨cur, e, hg, hcs⟩
theorem made_nums {w1 : World} {base n : Nat} {g : Nat} (h : w1.ownsRow base 35 1 (.slice (some ⟨g, 0, none⟩) n n) n (List.replicate n (.int .u64 0))) : Nums w1 g n (fun _ => 0) := by
  refine ⟨by have := made_size h; simpa using this, fun p hp => ?_⟩
  rw [World.ownsRow.cellAt h p (by omega)]
  simp [hp]
end Go.Proofs.Qxb6606440a
