/-
  From the reading of a slice of records to what the walks ask.
-/
import Derived.Test.YbulkbgkkDoorRecsAny
import Derived.ProofKit
import Derived.Lib.SmallJoins
import Derived.Deep.Slices
namespace Go.Proofs.YbulkbgkkDoor
open Go.ChangeShapes Go.WideShapes Go.ChangeAt Go.RowKit Go.Deep
set_option linter.unusedVariables false

theorem Ybad.cells43 : Ybad.prog.cellsOf 43 = 4 := by kernel_rfl
theorem Ybad.cells25 : Ybad.prog.cellsOf 25 = 1 := by kernel_rfl
theorem Ybad.cells4 : Ybad.prog.cellsOf 4 = 1 := by kernel_rfl

theorem four_of {cs : List Value} (h : cs.length = 4) : ∃ a b c d, cs = [a, b, c, d] := by
  match cs, h with
  | [a, b, c, d], _ => exact ⟨a, b, c, d, rfl⟩

theorem add_spot (b off i : Nat) : (⟨b, off, none⟩ : Addr).add i = ⟨b, off + i, none⟩ := by unfold Addr.add; split <;> simp_all

theorem wf_u32 {n : Int} (h : (Lit.int .u32 n).wf = true) : 0 ≤ n ∧ n < 4294967296 := by
  simp [Lit.wf, IntKind.min, IntKind.max, IntKind.bits, IntKind.signed] at h
  omega

/-- One record out of its reading. -/
theorem rec_of {H : Type} {enc : TypeId × Value → H} {W : World} {base : Nat} {spare : Nat → Bool} {held : Bool} {n : Nat} {cs : List Value} {x : DataW H × List MemPlace} (h : DataW.trod enc Ybad.prog W base spare held n 43 cs = some x) :
    ∃ r : Rec, r.ok ∧ cs = [.int .u32 r.g, .int .u32 r.c, .int .u32 r.m, .bool r.l] := by
  obtain ⟨xs, m, _, _, hlen, hxs, hf⟩ := DataW.trod_struct Ybad.underlying43 h
  rw [Ybad.cells43] at hlen
  obtain ⟨c0, c1, c2, c3, rfl⟩ := four_of hlen
  have h0 := hf 0 _ rfl
  have h1 := hf 1 _ rfl
  have h2 := hf 2 _ rfl
  have h3 := hf 3 _ rfl
  have e : xs.length = 4 := hxs
  rw [List.getElem?_eq_getElem (by omega)] at h0 h1 h2 h3
  obtain ⟨g, eg, _, wg⟩ := DataW.trod_int Ybad.underlying25 h0
  obtain ⟨c, ec, _, wc⟩ := DataW.trod_int Ybad.underlying25 h1
  obtain ⟨mm, em, _, wm⟩ := DataW.trod_int Ybad.underlying25 h2
  obtain ⟨l, el, _⟩ := DataW.trod_bool Ybad.underlying4 h3
  have eg' : List.take (Ybad.prog.cellsOf 25) (List.drop 0 [c0, c1, c2, c3]) = [.int .u32 g] := eg
  have ec' : List.take (Ybad.prog.cellsOf 25) (List.drop 1 [c0, c1, c2, c3]) = [.int .u32 c] := ec
  have em' : List.take (Ybad.prog.cellsOf 25) (List.drop 2 [c0, c1, c2, c3]) = [.int .u32 mm] := em
  have el' : List.take (Ybad.prog.cellsOf 4) (List.drop 3 [c0, c1, c2, c3]) = [.bool l] := el
  rw [Ybad.cells25] at eg' ec' em'
  rw [Ybad.cells4] at el'
  simp at eg' ec' em' el'
  subst eg' ec' em' el'
  obtain ⟨a1, a2⟩ := wf_u32 wg
  obtain ⟨a3, a4⟩ := wf_u32 wc
  obtain ⟨a5, a6⟩ := wf_u32 wm
  refine ⟨⟨g.toNat, c.toNat, mm.toNat, l⟩, ⟨by show g.toNat < _; omega, by show c.toNat < _; omega, by show mm.toNat < _; omega⟩, ?_⟩
  simp only
  rw [Int.toNat_of_nonneg a1, Int.toNat_of_nonneg a3, Int.toNat_of_nonneg a5]

theorem isRecs_of {H : Type} {enc : TypeId × Value → H} {W : World} {held : Bool} {fuel : Nat} {a : Option Addr} {len cap : Nat} {x : DataW H × List MemPlace}
    (h : DataW.trod enc Ybad.prog W 0 (fun _ => true) held fuel 22 [.slice a len cap] = some x) : ∃ rs, IsRecs W a len rs := by
  rcases open_slice Ybad.underlying22 h with ⟨hcs, _⟩ | ⟨a', len', cap', m, n, D, Pl, hcs, hb, hl, hm, hmm, _, hx⟩
  · simp at hcs
    exact ⟨[], .inl hcs.2.1⟩
  · simp at hcs
    obtain ⟨rfl, rfl, rfl⟩ := hcs
    simp only [if_true] at hmm
    subst hmm
    by_cases h0 : len = 0
    · exact ⟨[], .inl h0⟩
    · have hstep : ∀ i, i < len → ∃ r : Rec, r.ok ∧ ∀ j, j < 4 → W.cell? ((a'.add (i * 4)).add j) = ([.int .u32 r.g, .int .u32 r.c, .int .u32 r.m, .bool r.l] : List Value)[j]? := by
        intro i hi
        obtain ⟨cs', h1, h2⟩ := hx i (by omega)
        obtain ⟨r, hr, rfl⟩ := rec_of h2
        rw [Ybad.cells43] at h1
        exact ⟨r, hr, (World.cells?_some h1).2.2⟩
      letI : Inhabited Rec := ⟨⟨0, 0, 0, false⟩⟩
      obtain ⟨R, hR⟩ := choose_lt (p := fun i (r : Rec) => r.ok ∧ ∀ j, j < 4 → W.cell? ((a'.add (i * 4)).add j) = ([.int .u32 r.g, .int .u32 r.c, .int .u32 r.m, .bool r.l] : List Value)[j]?) hstep
      obtain ⟨b, off, spot⟩ := a'
      have hc00 := (hR 0 (by omega)).2 0 (by omega)
      have hspot : spot = none := by
        have := World.cell?_spot (hc00.trans rfl)
        simpa [Addr.add] using this
      subst hspot
      have hblk : b < W.heap.size := by
        have := World.block_lt_of_cell? W _ (hc00.trans rfl)
        simpa [add_spot] using this
      refine ⟨(List.range len).map R, .inr ⟨b, off, rfl, by simp, ?_, hblk, ?_⟩⟩
      · intro r hr
        obtain ⟨i, hi, rfl⟩ := List.mem_map.1 hr
        exact (hR i (by simpa using hi)).1
      · intro i hi
        have hi' : i < len := by simpa using hi
        have hc := (hR i hi').2
        simp only [add_spot] at hc
        simp only [List.getElem_map, List.getElem_range]
        exact ⟨hc 0 (by omega), hc 1 (by omega), hc 2 (by omega), hc 3 (by omega)⟩

end Go.Proofs.YbulkbgkkDoor
