/-
  zzToTrace (function 10): a new trace that holds the same events (their clocks copied).
-/
import Derived.Test.Qxb6606440aStamp
import Derived.Deep.RegionHeld3
namespace Go.Proofs.Qxb6606440a
open Go.RowKit

theorem info52 : (Try.prog.info? 52).map (fun i => (i.zero, i.size, i.bytes)) = some (some (.agg #[.int .i64 0, .int .u8 0, .slice none 0 0, .slice none 0 0, .int .u64 0, .string ByteArray.empty, .int .i64 0]), 7, 96) := by kernel_rfl

/-- the trace that T points to: the processes' slice, and a slice of events -/
structure TrAt (w : World) (T : Nat) (pa : Option Addr) (pl pc : Nat) (vo : Option Addr) (len vc B : Nat) (E : Nat → EvD) (K : Nat → Value) : Prop where
  lt : T < w.heap.size
  c0 : w.cell? ⟨T, 0, none⟩ = some (.slice pa pl pc)
  c1 : w.cell? ⟨T, 1, none⟩ = some (.slice vo len vc)
  row : RowN 7 w vo len vc B 0 (fun i => (E i).cells (K i))
  clk : ∀ i, i < len → ∃ a l c, K i = .slice a l c

def SaysTrace (w : World) (pa : Option Addr) (pl pc len : Nat) (E : Nat → EvD) (e : Ending) (w' : World) : Prop :=
  ∃ T vo vc B K, e = .returned (.pointer (some ⟨T, 0, none⟩)) ∧ TrAt w' T pa pl pc vo len vc B E K ∧ Below w.heap.size w w'

theorem Size.below {w w' : World} {G n B : Nat} (h : Size w G n) (hb : Below B w w') (hG : G < B) : Size w' G n := by
  obtain ⟨cur, t, hc, hn⟩ := h
  exact ⟨cur, t, (hb.block G hG).trans hc, hn⟩

theorem cell_far {b G : Nat} (h : b ≠ G) (w : World) (o x : Nat) (v : Value) : (w.setCell ⟨G, o, none⟩ v).cell? ⟨b, x, none⟩ = w.cell? ⟨b, x, none⟩ :=
  World.cell?_of_block (Below.heap_setCell _ _ _ _ h)

/-- the first i events lie in block G -/
def Laid (w : World) (G i : Nat) (E : Nat → EvD) (K : Nat → Value) : Prop :=
  ∀ j, j < i → (∃ a l c, K j = .slice a l c) ∧ ∀ m v, ((E j).cells (K j))[m]? = some v → w.cell? ⟨G, j * 7 + m, none⟩ = some v

theorem seven (w : World) (G o : Nat) (e : EvD) (clk : Value) :
    (((((((w.setCell ⟨G, o, none⟩ (.int .i64 e.proc)).setCell ⟨G, o + 1, none⟩ (.int .u8 e.kind)).setCell ⟨G, o + 2, none⟩ (.slice e.sa e.sl e.sc)).setCell ⟨G, o + 3, none⟩ clk).setCell ⟨G, o + 4, none⟩ (.int .u64 e.lam)).setCell ⟨G, o + 5, none⟩ (.string e.text)).setCell ⟨G, o + 6, none⟩ (.int .i64 e.line)) = w.setCells G o (e.cells clk) := rfl
theorem laid_step {w : World} {G i len : Nat} {E : Nat → EvD} {K : Nat → Value} (hs : Size w G (len * 7)) (hi : i < len) (hK : Laid w G i E K) (a : Option Addr) (l c : Nat) :
    Size (w.setCells G (i * 7) ((E i).cells (.slice a l c))) G (len * 7) ∧ Laid (w.setCells G (i * 7) ((E i).cells (.slice a l c))) G (i + 1) E (fun j => if j = i then .slice a l c else K j) := by
  refine ⟨?_, fun j hj => ?_⟩
  · rw [← seven]
    exact ((((((hs.set _ _).set _ _).set _ _).set _ _).set _ _).set _ _).set _ _
  · by_cases e : j = i
    · subst e
      dsimp only
      rw [if_pos rfl]
      refine ⟨⟨a, l, c, rfl⟩, fun m v hv => ?_⟩
      have hm : m < ((E j).cells (.slice a l c)).length := (List.getElem?_eq_some_iff.1 hv).1
      have h7 : ((E j).cells (.slice a l c)).length = 7 := rfl
      rw [World.cell?_setCells_in G _ (j * 7) w (fun k hk => by
        obtain ⟨x, hx⟩ := hs.cell (j * 7 + k) (by omega)
        rw [hx]; rfl) m hm]
      rw [← hv, List.getElem?_eq_getElem hm]
    · dsimp only
      rw [if_neg e]
      obtain ⟨hc, hcell⟩ := hK j (by omega)
      refine ⟨hc, fun m v hv => ?_⟩
      have hm : m < ((E j).cells (K j)).length := (List.getElem?_eq_some_iff.1 hv).1
      have h7 : ((E j).cells (K j)).length = 7 := rfl
      rw [World.cell?_setCells_out G _ _ w _ (fun _ _ => by left; show j * 7 + m < i * 7; omega)]
      exact hcell m v hv
theorem Laid.below {w w' : World} {G i B : Nat} {E : Nat → EvD} {K : Nat → Value} (h : Laid w G i E K) (hb : Below B w w') (hG : G < B) : Laid w' G i E K := fun j hj => ⟨(h j hj).1, fun m v hv => (hb.cell (p := ⟨G, j * 7 + m, none⟩) hG).trans ((h j hj).2 m v hv)⟩

set_option maxHeartbeats 2000000 in
theorem toTrace_any (pa : Option Addr) (pl pc : Nat) (ao : Option Addr) (len cap b off : Nat) (E : Nat → EvD) (w : World) (h : Evs w ao len cap b off E) (hl : len ≤ 65536) (hcl : ∀ i, i < len → (E i).cl ≤ 1048576) :
    Calls Try.prog 10 #[.slice pa pl pc, .slice ao len cap] w (SaysTrace w pa pl pc len E) := by
  cases ao with
  | none =>
    go_enter Try.func10, Try.ntmps10
    go_wp2_with fail
    go_ret
    obtain ⟨rfl, rfl⟩ := h.row.nil rfl
    refine ⟨w.heap.size, none, 0, 0, fun _ => .slice none 0 0, rfl, ⟨by simp, ?_, ?_, ?_, fun i hi => by omega⟩, (Below.refl _ w).alloc (Nat.le_refl _) _⟩
    · simp
    · simp
    · exact ⟨Nat.le_refl _, Nat.zero_le _, fun _ => ⟨rfl, rfl⟩, fun h => by omega, fun h => by omega, fun i h => by omega⟩
  | some a =>
    obtain ⟨i0, hi, hz0, hz1, hz2⟩ := info_parts info52
    go_enter Try.func10, Try.ntmps10
    go_wp2_with (at_make; refine wpList_make_full _ rfl _ _ 46 rfl w.heap.size 52 i0 _ 7 Try.underlying46 hi hz0 hz1 .i64 .i64 (len : Int) (len : Int) len rfl rfl rfl rfl (by rw [hz2]; omega) (by unfold maxLen; omega) (Nat.le_refl _) ?_)
    intro w1 hown hgrow
    have hb : Below w.heap.size w w1 := (Below.refl _ w).grown hgrow (Nat.le_refl _) (fun _ h => by cases h)
    have hsz : Size w1 w.heap.size (len * 7) := by
      rcases hown.2 with ⟨h, _⟩ | ⟨g, cap', cur, h, _, hg, _, _, hcs, _⟩
      · simp at h
      · simp only [Value.slice.injEq, Option.some.injEq, Addr.mk.injEq, and_true, true_and] at h
        obtain ⟨rfl, rfl⟩ := h
        exact ⟨cur, 52, hg, hcs⟩
    clear hown hgrow
    go_wp2_with fail
    go_loopw [6] (fun t wr => ∃ (i : Nat) (K : Nat → Value), i ≤ len ∧ t = .int .i64 (i : Int) ∧ Size wr w.heap.size (len * 7) ∧ Laid wr w.heap.size i E K ∧ Below w.heap.size w wr) (fun t _ => len - (intOf t).toNat)
    case atStart => exact ⟨0, fun _ => .slice none 0 0, Nat.zero_le _, rfl, hsz, fun j hj => by omega, hb⟩
    case round =>
      obtain ⟨i, K, hi, rfl, hs, hK, hbw⟩ := hrel
      clear hsz hb
      by_cases hlt : i < len
      · have ha := h.row.ad (by omega)
        simp only [Option.some.injEq] at ha
        subst ha
        have h' := h.below hbw
        have c0 := h'.row.at0 i hlt rfl
        have c1 := h'.row.atj i hlt 1 rfl
        have c2 := h'.row.atj i hlt 2 rfl
        have c3 := h'.row.atj i hlt 3 rfl
        have c4 := h'.row.atj i hlt 4 rfl
        have c5 := h'.row.atj i hlt 5 rfl
        have c6 := h'.row.atj i hlt 6 rfl
        have hck := (h'.ok i hlt).clk
        have hcli := hcl i hlt
        have hbl : b < w.heap.size := h.row.lt (by omega)
        have hGl : w.heap.size < wr.heap.size := by obtain ⟨cur, t, hc, _⟩ := hs; exact lt_of_block hc
        have hbl2 : b < wr.heap.size := by omega
        have hi0 : (0 : Int) ≤ (i : Int) := Int.natCast_nonneg _
        have hi1 : (i : Int) < (len : Int) := by omega
        have hsz' := hs
        have HK : Hid (Laid wr w.heap.size i E K) := hK
        have HBW : Hid (Below w.heap.size w wr) := hbw
        have HS : Hid (Size wr w.heap.size (len * 7)) := hs
        have hne : b ≠ w.heap.size := by omega
        clear hK hbw hs h' h hsz'
        go_wp2_with fail
        go_region_held3 (fun w' => w'.cell? ⟨b, off + i * 7, none⟩ = some (.int .i64 (E i).proc) ∧ w'.cell? ⟨b, off + i * 7 + 1, none⟩ = some (.int .u8 (E i).kind) ∧ w'.cell? ⟨b, off + i * 7 + 2, none⟩ = some (.slice (E i).sa (E i).sl (E i).sc) ∧ w'.cell? ⟨b, off + i * 7 + 3, none⟩ = some (.slice (E i).ca (E i).cl (E i).cc) ∧ w'.cell? ⟨b, off + i * 7 + 4, none⟩ = some (.int .u64 (E i).lam) ∧ w'.cell? ⟨b, off + i * 7 + 5, none⟩ = some (.string (E i).text) ∧ w'.cell? ⟨b, off + i * 7 + 6, none⟩ = some (.int .i64 (E i).line))
          (first | go_keep | (go_split_ands; refine ⟨?_, ?_, ?_, ?_, ?_, ?_, ?_⟩ <;> (rw [hb2.cell (by exact hbl2)]; assumption)) | (go_split_ands; refine ⟨?_, ?_, ?_, ?_, ?_, ?_, ?_⟩ <;> (simp only [cell_far hne]; assumption)))
          ((go_at_call 16; refine (stamp_any _ _ _ wr.drew (hck.below (Below.refl _ wr).drew) hcli).mono ?_; rintro e w2 ⟨a2, l2, k2, rfl, hb2⟩; have hs2 := HS.out.drew.below hb2 hGl; obtain ⟨x0, e0⟩ := hs2.cell (i * 7) (by omega); obtain ⟨x1, e1⟩ := hs2.cell (i * 7 + 1) (by omega); obtain ⟨x2, e2⟩ := hs2.cell (i * 7 + 2) (by omega); obtain ⟨x3, e3⟩ := hs2.cell (i * 7 + 3) (by omega); obtain ⟨x4, e4⟩ := hs2.cell (i * 7 + 4) (by omega); obtain ⟨x5, e5⟩ := hs2.cell (i * 7 + 5) (by omega); obtain ⟨x6, e6⟩ := hs2.cell (i * 7 + 6) (by omega); have g0 := hs2.free; clear hs2))
        rw [seven]
        have HL : Hid (Size (w2.setCells w.heap.size (i * 7) ((E i).cells (.slice a2 l2 k2))) w.heap.size (len * 7) ∧ Laid (w2.setCells w.heap.size (i * 7) ((E i).cells (.slice a2 l2 k2))) w.heap.size (i + 1) E (fun j => if j = i then .slice a2 l2 k2 else K j)) :=
          laid_step (HS.out.drew.below hb2 hGl) hlt (Laid.below (w := wr.drew) HK.out hb2 hGl) a2 l2 k2
        have HB3 : Hid (Below w.heap.size w (w2.setCells w.heap.size (i * 7) ((E i).cells (.slice a2 l2 k2)))) := by
          show Below _ _ _
          rw [← seven]
          exact ((((((((HBW.out.drew.trans (hb2.mono (by show w.heap.size ≤ wr.heap.size; omega))).setCell (Nat.le_refl _) _).setCell (Nat.le_refl _) _).setCell (Nat.le_refl _) _).setCell (Nat.le_refl _) _).setCell (Nat.le_refl _) _).setCell (Nat.le_refl _) _).setCell (Nat.le_refl _) _)
        generalize w2.setCells w.heap.size (i * 7) ((E i).cells (.slice a2 l2 k2)) = W7 at *
        clear hb2
        go_wp2_with fail
        go_roundw
        case rel => exact ⟨i + 1, _, by omega, by go_num, HL.out.1, HL.out.2, HB3.out⟩
        case measure => simp [intOf]; omega
      · have hil : i = len := by omega
        go_wp2_with fail
        go_ret
        have hGl : w.heap.size < wr.heap.size := by obtain ⟨cur, t, hc, _⟩ := hs; exact lt_of_block hc
        refine ⟨wr.heap.size, some ⟨w.heap.size, 0, none⟩, len, w.heap.size, K, rfl, ⟨by simp, ?_, ?_, ?_, fun j hj => (hK j (by omega)).1⟩, hbw.alloc hbw.size _⟩
        · simp
        · simp
        · refine ⟨Nat.le_refl _, by unfold maxLen; omega, fun h => (by cases h), fun _ => rfl, fun _ => by simp; omega, fun j hj m v hv => ?_⟩
          have := (hK j (by omega)).2 m v hv
          rw [Nat.zero_add]
          have hne2 : w.heap.size ≠ wr.heap.size := by omega
          rw [← this]
          exact World.cell?_of_block (Below.heap_alloc _ _ _ hGl)
end Go.Proofs.Qxb6606440a
