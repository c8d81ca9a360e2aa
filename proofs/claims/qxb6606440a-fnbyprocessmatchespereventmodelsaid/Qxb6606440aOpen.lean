/-
  The arguments of the trace laws, opened: what the walk is told of each slice that came in. Nothing here is a walk.
-/
import Derived.Test.Qxb6606440aRows
import Derived.WalkKit
import Derived.OpenShut
import Derived.ProofKit
import Derived.ChangeOld
import Derived.Below
import Derived.Deep.Slices
namespace Go.Proofs.Qxb6606440a
open Go.ChangeShapes Go.WideShapes Go.RowKit

/-- A slice (the address 'ao', the length, the capacity) whose elements take k cells each: C i are the cells of element i. -/
structure RowN (k : Nat) (w : World) (ao : Option Addr) (len cap b off : Nat) (C : Nat → List Value) : Prop where
  le : len ≤ cap
  capm : cap ≤ maxLen
  nil : ao = none → len = 0 ∧ cap = 0
  ad : 0 < len → ao = some ⟨b, off, none⟩
  lt : 0 < len → b < w.heap.size
  cell : ∀ i, i < len → ∀ j v, (C i)[j]? = some v → w.cell? ⟨b, off + (i * k + j), none⟩ = some v

theorem RowN.below {k : Nat} {w w' : World} {ao : Option Addr} {len cap b off : Nat} {C : Nat → List Value} (h : RowN k w ao len cap b off C) (hb : Below w.heap.size w w') : RowN k w' ao len cap b off C :=
  ⟨h.le, h.capm, h.nil, h.ad, fun hl => by have := h.lt hl; have := hb.size; omega, fun i hi j v hv => (hb.cell (p := ⟨b, off + (i * k + j), none⟩) (h.lt (by omega))).trans (h.cell i hi j v hv)⟩

theorem open_rowN {H : Type} {enc : TypeId × Value → H} {P : Program} {w : World} {spare : Nat → Bool} {held : Bool} {t e : TypeId} {k : Nat} {d : DataW H} {p : List MemPlace} {v : Value} (ht : P.underlying t = some (.slice e)) (hk : P.cellsOf e = k) (hk0 : 0 < k)
    {fuel : Nat} (h : DataW.trod enc P w 0 spare held fuel t [v] = some (d, p)) :
    ∃ ao len cap b off C, v = .slice ao len cap ∧ RowN k w ao len cap b off C ∧ ∀ i, i < len → (C i).length = k ∧ ∃ n x, DataW.trod enc P w 0 spare held n e (C i) = some x := by
  rcases Deep.open_slice ht h with ⟨hv, _⟩ | ⟨a, len, cap, m, n, D, Pl, hv, _, hl, hm, hmm, _, hx⟩
  · simp only [List.cons.injEq, and_true] at hv
    exact ⟨none, 0, 0, 0, 0, fun _ => [], hv, ⟨Nat.le_refl _, Nat.zero_le _, fun _ => ⟨rfl, rfl⟩, fun h => by omega, fun h => by omega, fun i h => by omega⟩, fun i h => by omega⟩
  · simp only [List.cons.injEq, and_true] at hv
    subst hk
    have hlm : len ≤ m := by rw [hmm]; split <;> omega
    obtain ⟨C, hC⟩ := Deep.choose_lt (α := List Value) (p := fun i cs => w.cells? 0 (a.add (i * P.cellsOf e)) (P.cellsOf e) = some cs ∧ DataW.trod enc P w 0 spare held n e cs = some (D i, Pl i)) (n := m) hx
    obtain ⟨b, off, spot⟩ := a
    have hsp : 0 < len → spot = none := fun hl0 => by
      obtain ⟨h1, _⟩ := hC 0 (by omega)
      obtain ⟨_, hlen, hcell⟩ := World.cells?_some h1
      have h0 := hcell 0 hk0
      rw [List.getElem?_eq_getElem (by omega)] at h0
      simpa [Addr.add] using World.cell?_spot h0
    have hcl : ∀ i, i < len → ∀ j v, (C i)[j]? = some v → w.cell? ⟨b, off + (i * P.cellsOf e + j), none⟩ = some v := by
      intro i hi j u hu
      obtain ⟨h1, _⟩ := hC i (by omega)
      obtain ⟨_, hlen, hcell⟩ := World.cells?_some h1
      have hj : j < P.cellsOf e := by have := (List.getElem?_eq_some_iff.1 hu).1; omega
      have := hcell j hj
      rw [hsp (by omega), Addr.add_lit, Addr.add_lit] at this
      rw [← hu, ← this]
      congr 2; omega
    refine ⟨some ⟨b, off, spot⟩, len, cap, b, off, C, hv, ⟨hl, hm, fun h => (by cases h), fun hl0 => by rw [hsp hl0], fun hl0 => ?_, hcl⟩, fun i hi => ?_⟩
    · obtain ⟨h1, _⟩ := hC 0 (by omega)
      obtain ⟨_, hlen, _⟩ := World.cells?_some h1
      have h0 := hcl 0 hl0 0 _ (List.getElem?_eq_getElem (by omega))
      exact World.block_lt_of_cell? w _ h0
    · obtain ⟨h1, h2⟩ := hC i (by omega)
      exact ⟨(World.cells?_some h1).2.1, n, _, h2⟩


theorem cells22 : Try.prog.cellsOf 22 = 1 := by kernel_rfl
theorem cells9 : Try.prog.cellsOf 9 = 1 := by kernel_rfl
theorem cells37 : Try.prog.cellsOf 37 = 7 := by kernel_rfl
theorem cells3 : Try.prog.cellsOf 3 = 1 := by kernel_rfl
theorem cells5 : Try.prog.cellsOf 5 = 1 := by kernel_rfl
theorem cells25 : Try.prog.cellsOf 25 = 1 := by kernel_rfl
theorem cells34 : Try.prog.cellsOf 34 = 1 := by kernel_rfl
theorem cells35 : Try.prog.cellsOf 35 = 1 := by kernel_rfl
theorem cells58 : Try.prog.cellsOf 58 = 2 := by kernel_rfl

/-- A []string, a []int, a []uint64 that came in. -/
structure Strs (w : World) (ao : Option Addr) (len cap b off : Nat) (S : Nat → ByteArray) : Prop where
  row : RowN 1 w ao len cap b off (fun i => [.string (S i)])
  ok : ∀ i, i < len → (S i).size ≤ maxLen
structure Ints (k : IntKind) (w : World) (ao : Option Addr) (len cap b off : Nat) (Z : Nat → Int) : Prop where
  row : RowN 1 w ao len cap b off (fun i => [.int k (Z i)])
  ok : ∀ i, i < len → (Lit.int k (Z i)).wf = true
/-- A []ZEntry that came in: two cells an element. -/
def Clk (w : World) (ao : Option Addr) (len cap : Nat) : Prop :=
  ∃ (b off : Nat) (Z U : Nat → Int), RowN 2 w ao len cap b off (fun i => [.int .i64 (Z i), .int .u64 (U i)])

theorem Strs.below {w w' : World} {ao : Option Addr} {len cap b off : Nat} {S : Nat → ByteArray} (h : Strs w ao len cap b off S) (hb : Below w.heap.size w w') : Strs w' ao len cap b off S := ⟨h.row.below hb, h.ok⟩
theorem Ints.below {k : IntKind} {w w' : World} {ao : Option Addr} {len cap b off : Nat} {Z : Nat → Int} (h : Ints k w ao len cap b off Z) (hb : Below w.heap.size w w') : Ints k w' ao len cap b off Z := ⟨h.row.below hb, h.ok⟩
theorem Clk.below {w w' : World} {ao : Option Addr} {len cap : Nat} (h : Clk w ao len cap) (hb : Below w.heap.size w w') : Clk w' ao len cap := by
  obtain ⟨b, off, Z, U, h⟩ := h
  exact ⟨b, off, Z, U, h.below hb⟩

/-- one event: its seven fields -/
structure EvD where
  proc : Int
  kind : Int
  sa : Option Addr
  sl : Nat
  sc : Nat
  ca : Option Addr
  cl : Nat
  cc : Nat
  lam : Int
  text : ByteArray
  line : Int
def EvD.cells (e : EvD) (clk : Value) : List Value := [.int .i64 e.proc, .int .u8 e.kind, .slice e.sa e.sl e.sc, clk, .int .u64 e.lam, .string e.text, .int .i64 e.line]
structure EvOk (w : World) (e : EvD) : Prop where
  proc : (Lit.int .i64 e.proc).wf = true
  kind : (Lit.int .u8 e.kind).wf = true
  snd : ∃ b off Z, Ints .i64 w e.sa e.sl e.sc b off Z
  clk : Clk w e.ca e.cl e.cc
  lam : (Lit.int .u64 e.lam).wf = true
  text : e.text.size ≤ maxLen
  line : (Lit.int .i64 e.line).wf = true
theorem EvOk.below {w w' : World} {e : EvD} (h : EvOk w e) (hb : Below w.heap.size w w') : EvOk w' e := by
  obtain ⟨b, off, Z, hs⟩ := h.snd
  exact ⟨h.proc, h.kind, ⟨b, off, Z, hs.below hb⟩, h.clk.below hb, h.lam, h.text, h.line⟩
/-- A []ZEvent that came in: seven cells an element. -/
structure Evs (w : World) (ao : Option Addr) (len cap b off : Nat) (E : Nat → EvD) : Prop where
  row : RowN 7 w ao len cap b off (fun i => (E i).cells (.slice (E i).ca (E i).cl (E i).cc))
  ok : ∀ i, i < len → EvOk w (E i)
theorem Evs.below {w w' : World} {ao : Option Addr} {len cap b off : Nat} {E : Nat → EvD} (h : Evs w ao len cap b off E) (hb : Below w.heap.size w w') : Evs w' ao len cap b off E := ⟨h.row.below hb, fun i hi => (h.ok i hi).below hb⟩

theorem RowN.at0 {w : World} {k : Nat} {ao : Option Addr} {len cap b off : Nat} {C : Nat → List Value} (h : RowN k w ao len cap b off C) (i : Nat) (hi : i < len) {v : Value} (hv : (C i)[0]? = some v) : w.cell? ⟨b, off + i * k, none⟩ = some v := by
  have := h.cell i hi 0 v hv
  simpa using this
theorem RowN.atj {w : World} {k : Nat} {ao : Option Addr} {len cap b off : Nat} {C : Nat → List Value} (h : RowN k w ao len cap b off C) (i : Nat) (hi : i < len) (j : Nat) {v : Value} (hv : (C i)[j]? = some v) : w.cell? ⟨b, off + i * k + j, none⟩ = some v := by
  have := h.cell i hi j v hv
  rwa [← Nat.add_assoc] at this
theorem Strs.at {w : World} {ao : Option Addr} {len cap b off : Nat} {S : Nat → ByteArray} (h : Strs w ao len cap b off S) (i : Nat) (hi : i < len) : w.cell? ⟨b, off + i, none⟩ = some (.string (S i)) := by
  have := h.row.at0 i hi rfl
  simpa using this
theorem Ints.at {k : IntKind} {w : World} {ao : Option Addr} {len cap b off : Nat} {Z : Nat → Int} (h : Ints k w ao len cap b off Z) (i : Nat) (hi : i < len) : w.cell? ⟨b, off + i, none⟩ = some (.int k (Z i)) := by
  have := h.row.at0 i hi rfl
  simpa using this
theorem RowN.congr {k : Nat} {w : World} {ao : Option Addr} {len cap b off : Nat} {C C' : Nat → List Value} (h : RowN k w ao len cap b off C) (e : ∀ i, i < len → C i = C' i) : RowN k w ao len cap b off C' :=
  ⟨h.le, h.capm, h.nil, h.ad, h.lt, fun i hi j v hv => h.cell i hi j v (by rw [e i hi]; exact hv)⟩

section
variable {H : Type} {enc : TypeId × Value → H} {w : World} {spare : Nat → Bool} {held : Bool} {d : DataW H} {p : List MemPlace} {v : Value}

theorem open_ints' {t e : TypeId} {k : IntKind} (ht : Try.prog.underlying t = some (.slice e)) (he : Try.prog.underlying e = some (.int k)) (hc : Try.prog.cellsOf e = 1) {fuel : Nat} (h : DataW.trod enc Try.prog w 0 spare held fuel t [v] = some (d, p)) :
    ∃ ao len cap b off Z, v = .slice ao len cap ∧ Ints k w ao len cap b off Z := by
  obtain ⟨ao, len, cap, b, off, C, rfl, hr, hx⟩ := open_rowN ht hc (by decide) h
  obtain ⟨Z, hZ⟩ := Deep.choose_lt (α := Int) (n := len) (p := fun i z => C i = [.int k z] ∧ (Lit.int k z).wf = true) (fun i hi => by
    obtain ⟨_, n, x, hn⟩ := hx i hi
    obtain ⟨z, hz, _, hw⟩ := DataW.trod_int he hn
    exact ⟨z, hz, hw⟩)
  exact ⟨ao, len, cap, b, off, Z, rfl, hr.congr (fun i hi => (hZ i hi).1), fun i hi => (hZ i hi).2⟩
theorem open_strs' {fuel : Nat} (h : DataW.trod enc Try.prog w 0 spare held fuel 22 [v] = some (d, p)) :
    ∃ ao len cap b off S, v = .slice ao len cap ∧ Strs w ao len cap b off S := by
  obtain ⟨ao, len, cap, b, off, C, rfl, hr, hx⟩ := open_rowN Try.underlying22 cells9 (by decide) h
  obtain ⟨S, hS⟩ := Deep.choose_lt (α := ByteArray) (n := len) (p := fun i s => C i = [.string s] ∧ s.size ≤ maxLen) (fun i hi => by
    obtain ⟨_, n, x, hn⟩ := hx i hi
    obtain ⟨z, hz, _, hw⟩ := DataW.trod_string Try.underlying9 hn
    exact ⟨z, hz, hw⟩)
  exact ⟨ao, len, cap, b, off, S, rfl, hr.congr (fun i hi => (hS i hi).1), fun i hi => (hS i hi).2⟩
theorem list2 {α : Type} {l : List α} (h : l.length = 2) : ∃ a b, l = [a, b] := by
  match l, h with
  | [a, b], _ => exact ⟨a, b, rfl⟩
theorem list7 {α : Type} {l : List α} (h : l.length = 7) : ∃ a b c d e f g, l = [a, b, c, d, e, f, g] := by
  match l, h with
  | [a, b, c, d, e, f, g], _ => exact ⟨a, b, c, d, e, f, g, rfl⟩
theorem open_clk {fuel : Nat} (h : DataW.trod enc Try.prog w 0 spare held fuel 34 [v] = some (d, p)) :
    ∃ ao len cap, v = .slice ao len cap ∧ Clk w ao len cap := by
  obtain ⟨ao, len, cap, b, off, C, rfl, hr, hx⟩ := open_rowN Try.underlying34 cells58 (by decide) h
  obtain ⟨Z, hZ⟩ := Deep.choose_lt (α := Int × Int) (n := len) (p := fun i z => C i = [.int .i64 z.1, .int .u64 z.2]) (fun i hi => by
    obtain ⟨hl, n, x, hn⟩ := hx i hi
    obtain ⟨c0, c1, hc⟩ := list2 hl
    rw [hc] at hn
    obtain ⟨xs, m, _, _, _, hxs, hf⟩ := DataW.trod_struct Try.underlying58 hn
    have f0 : DataW.trod enc Try.prog w 0 spare held m 3 (([c0, c1].drop 0).take (Try.prog.cellsOf 3)) = xs[0]? := hf 0 _ rfl
    have f1 : DataW.trod enc Try.prog w 0 spare held m 35 (([c0, c1].drop 1).take (Try.prog.cellsOf 35)) = xs[1]? := hf 1 _ rfl
    rw [List.getElem?_eq_getElem (by rw [hxs]; decide), cells3] at f0
    rw [List.getElem?_eq_getElem (by rw [hxs]; decide), cells35] at f1
    obtain ⟨z0, h0, _, _⟩ := DataW.trod_int Try.underlying3 f0
    obtain ⟨z1, h1, _, _⟩ := DataW.trod_int Try.underlying35 f1
    have h0 : c0 = .int .i64 z0 := by simpa using h0
    have h1 : c1 = .int .u64 z1 := by simpa using h1
    exact ⟨(z0, z1), by rw [hc, h0, h1]⟩)
  exact ⟨ao, len, cap, rfl, b, off, fun i => (Z i).1, fun i => (Z i).2, hr.congr (fun i hi => hZ i hi)⟩
theorem open_evs {fuel : Nat} (h : DataW.trod enc Try.prog w 0 spare held fuel 23 [v] = some (d, p)) :
    ∃ ao len cap b off E, v = .slice ao len cap ∧ Evs w ao len cap b off E := by
  obtain ⟨ao, len, cap, b, off, C, rfl, hr, hx⟩ := open_rowN Try.underlying23 cells37 (by decide) h
  haveI : Inhabited EvD := ⟨⟨0, 0, none, 0, 0, none, 0, 0, 0, ByteArray.empty, 0⟩⟩
  obtain ⟨E, hE⟩ := Deep.choose_lt (α := EvD) (n := len) (p := fun i e => C i = e.cells (.slice e.ca e.cl e.cc) ∧ EvOk w e) (fun i hi => by
    obtain ⟨hl, n, x, hn⟩ := hx i hi
    obtain ⟨c0, c1, c2, c3, c4, c5, c6, hc⟩ := list7 hl
    rw [hc] at hn
    obtain ⟨xs, m, _, _, _, hxs, hf⟩ := DataW.trod_struct Try.underlying37 hn
    have f0 : DataW.trod enc Try.prog w 0 spare held m 3 (([c0, c1, c2, c3, c4, c5, c6].drop 0).take (Try.prog.cellsOf 3)) = xs[0]? := hf 0 _ rfl
    have f1 : DataW.trod enc Try.prog w 0 spare held m 5 (([c0, c1, c2, c3, c4, c5, c6].drop 1).take (Try.prog.cellsOf 5)) = xs[1]? := hf 1 _ rfl
    have f2 : DataW.trod enc Try.prog w 0 spare held m 25 (([c0, c1, c2, c3, c4, c5, c6].drop 2).take (Try.prog.cellsOf 25)) = xs[2]? := hf 2 _ rfl
    have f3 : DataW.trod enc Try.prog w 0 spare held m 34 (([c0, c1, c2, c3, c4, c5, c6].drop 3).take (Try.prog.cellsOf 34)) = xs[3]? := hf 3 _ rfl
    have f4 : DataW.trod enc Try.prog w 0 spare held m 35 (([c0, c1, c2, c3, c4, c5, c6].drop 4).take (Try.prog.cellsOf 35)) = xs[4]? := hf 4 _ rfl
    have f5 : DataW.trod enc Try.prog w 0 spare held m 9 (([c0, c1, c2, c3, c4, c5, c6].drop 5).take (Try.prog.cellsOf 9)) = xs[5]? := hf 5 _ rfl
    have f6 : DataW.trod enc Try.prog w 0 spare held m 3 (([c0, c1, c2, c3, c4, c5, c6].drop 6).take (Try.prog.cellsOf 3)) = xs[6]? := hf 6 _ rfl
    rw [List.getElem?_eq_getElem (by rw [hxs]; decide), cells3] at f0
    rw [List.getElem?_eq_getElem (by rw [hxs]; decide), cells5] at f1
    rw [List.getElem?_eq_getElem (by rw [hxs]; decide), cells25] at f2
    rw [List.getElem?_eq_getElem (by rw [hxs]; decide), cells34] at f3
    rw [List.getElem?_eq_getElem (by rw [hxs]; decide), cells35] at f4
    rw [List.getElem?_eq_getElem (by rw [hxs]; decide), cells9] at f5
    rw [List.getElem?_eq_getElem (by rw [hxs]; decide), cells3] at f6
    obtain ⟨z0, h0, _, w0⟩ := DataW.trod_int Try.underlying3 f0
    obtain ⟨z1, h1, _, w1⟩ := DataW.trod_int Try.underlying5 f1
    obtain ⟨sa, sl, sc, sb, so, SZ, h2, w2⟩ := open_ints' (k := .i64) Try.underlying25 Try.underlying3 cells3 f2
    obtain ⟨ca, cl, cc, h3, w3⟩ := open_clk f3
    obtain ⟨z4, h4, _, w4⟩ := DataW.trod_int Try.underlying35 f4
    obtain ⟨z5, h5, _, w5⟩ := DataW.trod_string Try.underlying9 f5
    obtain ⟨z6, h6, _, w6⟩ := DataW.trod_int Try.underlying3 f6
    have h0 : c0 = .int .i64 z0 := by simpa using h0
    have h1 : c1 = .int .u8 z1 := by simpa using h1
    have h4 : c4 = .int .u64 z4 := by simpa using h4
    have h5 : c5 = .string z5 := by simpa using h5
    have h6 : c6 = .int .i64 z6 := by simpa using h6
    exact ⟨⟨z0, z1, sa, sl, sc, ca, cl, cc, z4, z5, z6⟩, by rw [hc, h0, h1, h2, h3, h4, h5, h6]; rfl, ⟨w0, w1, ⟨sb, so, SZ, w2⟩, w3, w4, w5, w6⟩⟩)
  exact ⟨ao, len, cap, b, off, E, rfl, hr.congr (fun i hi => (hE i hi).1), fun i hi => (hE i hi).2⟩
end

end Go.Proofs.Qxb6606440a
