/-
  LawS2872AMatchesModel: the slices that came in, opened.
-/
import Derived.Test.YbulkbglmA8
import Derived.ProofKit
import Derived.OpenShut
import Derived.Deep.Slices
namespace Go.Proofs.Ybulkbglm
open Go Go.ChangeShapes Go.WideShapes Go.Deep
set_option linter.unusedSimpArgs false
set_option linter.unusedVariables false

theorem cells9A : Yba.prog.cellsOf 9 = 1 := by kernel_rfl
theorem cells5A : Yba.prog.cellsOf 5 = 1 := by kernel_rfl
theorem cells68A : Yba.prog.cellsOf 68 = 2 := by kernel_rfl

theorem add_spot (b off i : Nat) : (⟨b, off, none⟩ : Addr).add i = ⟨b, off + i, none⟩ := by unfold Addr.add; split <;> simp_all

section
variable {H : Type} {enc : TypeId × Value → H} {W : World} {held : Bool} {fuel : Nat}

/-- A slice, opened at every index, by a reading R of one element's cells. -/
theorem slice_of {α : Type} [Inhabited α] {t e k : Nat} {a : Option Addr} {len cap : Nat} {x : DataW H × List MemPlace} (ht : Yba.prog.underlying t = some (.slice e)) (hk : Yba.prog.cellsOf e = k) (hk0 : 0 < k) (R : α → List Value → Prop)
    (hR : ∀ (n : Nat) (cs : List Value) (y : DataW H × List MemPlace), DataW.trod enc Yba.prog W 0 (fun _ => true) held n e cs = some y → ∃ z : α, R z cs ∧ cs.length = k)
    (h : DataW.trod enc Yba.prog W 0 (fun _ => true) held fuel t [.slice a len cap] = some x) :
    len ≤ maxLen ∧ ∃ l : List α, l.length = len ∧ ∀ i z, l[i]? = some z → ∃ cs, R z cs ∧ ∃ ad, a = some ad ∧ ad.block < W.heap.size ∧ ∀ j, j < k → W.cell? (ad.add (i * k + j)) = cs[j]? := by
  rcases open_slice ht h with ⟨hcs, _⟩ | ⟨a', len', cap', m, n, D, Pl, hcs, hb, hl, hm, hmm, _, hx⟩
  · simp at hcs
    obtain ⟨_, rfl, _⟩ := hcs
    exact ⟨Nat.zero_le _, [], rfl, fun i z hz => by simp at hz⟩
  · simp at hcs
    obtain ⟨rfl, rfl, rfl⟩ := hcs
    simp only [if_true] at hmm
    subst hmm
    refine ⟨Nat.le_trans hl hm, ?_⟩
    by_cases h0 : len = 0
    · exact ⟨[], h0.symm, fun i z hz => by simp at hz⟩
    · have hstep : ∀ i, i < len → ∃ r : α, ∃ cs, R r cs ∧ cs.length = k ∧ ∀ j, j < k → W.cell? ((a'.add (i * k)).add j) = cs[j]? := by
        intro i hi
        obtain ⟨cs', h1, h2⟩ := hx i (by omega)
        obtain ⟨r, hr, hl'⟩ := hR _ _ _ h2
        rw [hk] at h1
        exact ⟨r, cs', hr, hl', (World.cells?_some h1).2.2⟩
      obtain ⟨F, hF⟩ := choose_lt hstep
      obtain ⟨b, off, spot⟩ := a'
      obtain ⟨cs0, _, hl0, hc0⟩ := hF 0 (by omega)
      have hc00 := hc0 0 hk0
      rw [List.getElem?_eq_getElem (by omega)] at hc00
      have hspot : spot = none := by
        have := World.cell?_spot hc00
        simpa [Addr.add] using this
      subst hspot
      have hblk : b < W.heap.size := by
        have := World.block_lt_of_cell? W _ hc00
        simpa [add_spot] using this
      refine ⟨(List.range len).map F, by simp, ?_⟩
      intro i z hz
      have hi : i < len := by
        have := (List.getElem?_eq_some_iff.1 hz).1
        simpa using this
      obtain ⟨cs, h1, h2, h3⟩ := hF i hi
      have ez : z = F i := by
        rw [List.getElem?_map, List.getElem?_range hi] at hz
        simpa using hz.symm
      subst ez
      refine ⟨cs, h1, _, rfl, hblk, fun j hj => ?_⟩
      have := h3 j hj
      simp only [add_spot] at this ⊢
      rw [← this, Nat.add_assoc]

theorem wf_u8 {n : Int} (h : (Lit.int .u8 n).wf = true) : 0 ≤ n ∧ n < 256 := by
  simp [Lit.wf, IntKind.min, IntKind.max, IntKind.bits, IntKind.signed] at h
  omega

theorem tex_of {a : Option Addr} {len cap : Nat} {x : DataW H × List MemPlace} (h : DataW.trod enc Yba.prog W 0 (fun _ => true) held fuel 22 [.slice a len cap] = some x) : len ≤ maxLen ∧ ∃ l, Tex W a len l := by
  obtain ⟨h1, l, hl, hc⟩ := slice_of (α := List UInt8) Yba.underlying22 cells9A (by omega) (fun z cs => cs = [.string ⟨z.toArray⟩] ∧ z.length ≤ maxLen) (fun n cs y hy => by
    obtain ⟨s, rfl, _, hs⟩ := DataW.trod_string Yba.underlying9 hy
    refine ⟨s.data.toList, ⟨by simp, ?_⟩, rfl⟩
    have : s.data.size ≤ maxLen := hs
    simpa using this) h
  refine ⟨h1, l, hl, fun x hx => ?_, fun i x hx => ?_⟩
  · obtain ⟨i, hi⟩ := List.getElem?_of_mem hx
    obtain ⟨cs, ⟨_, h2⟩, _⟩ := hc i x hi
    exact h2
  · obtain ⟨cs, ⟨rfl, _⟩, ad, ha, hb, hj⟩ := hc i x hx
    refine ⟨ad, ha, hb, ?_⟩
    have := hj 0 (by omega)
    simpa using this

theorem byt_of {a : Option Addr} {len cap : Nat} {x : DataW H × List MemPlace} (h : DataW.trod enc Yba.prog W 0 (fun _ => true) held fuel 23 [.slice a len cap] = some x) : len ≤ maxLen ∧ ∃ l, Byt W a len l := by
  obtain ⟨h1, l, hl, hc⟩ := slice_of (α := Nat) Yba.underlying23 cells5A (by omega) (fun z cs => cs = [.int .u8 (z : Int)] ∧ z < 256) (fun n cs y hy => by
    obtain ⟨s, rfl, _, hs⟩ := DataW.trod_int Yba.underlying5 hy
    obtain ⟨z0, z1⟩ := wf_u8 hs
    exact ⟨s.toNat, ⟨by rw [Int.toNat_of_nonneg z0], by omega⟩, rfl⟩) h
  refine ⟨h1, l, hl, fun x hx => ?_, fun i x hx => ?_⟩
  · obtain ⟨i, hi⟩ := List.getElem?_of_mem hx
    obtain ⟨cs, ⟨_, h2⟩, _⟩ := hc i x hi
    exact h2
  · obtain ⟨cs, ⟨rfl, _⟩, ad, ha, hb, hj⟩ := hc i x hx
    refine ⟨ad, ha, hb, ?_⟩
    have := hj 0 (by omega)
    simpa using this

theorem two_of {cs : List Value} (h : cs.length = 2) : ∃ a b, cs = [a, b] := by
  match cs, h with
  | [a, b], _ => exact ⟨a, b, rfl⟩

theorem pair_of {n : Nat} {cs : List Value} {x : DataW H × List MemPlace} (h : DataW.trod enc Yba.prog W 0 (fun _ => true) held n 68 cs = some x) :
    ∃ p : Nat × Nat, cs = [.int .u8 (p.1 : Int), .int .u8 (p.2 : Int)] ∧ p.1 < 256 ∧ p.2 < 256 := by
  obtain ⟨xs, m, _, _, hlen, hxs, hf⟩ := DataW.trod_struct Yba.underlying68 h
  rw [cells68A] at hlen
  obtain ⟨c0, c1, rfl⟩ := two_of hlen
  have h0 := hf 0 _ rfl
  have h1 := hf 1 _ rfl
  have e : xs.length = 2 := hxs
  rw [List.getElem?_eq_getElem (by omega)] at h0 h1
  obtain ⟨g, eg, _, wg⟩ := DataW.trod_int Yba.underlying5 h0
  obtain ⟨c, ec, _, wc⟩ := DataW.trod_int Yba.underlying5 h1
  have eg' : List.take (Yba.prog.cellsOf 5) (List.drop 0 [c0, c1]) = [.int .u8 g] := eg
  have ec' : List.take (Yba.prog.cellsOf 5) (List.drop 1 [c0, c1]) = [.int .u8 c] := ec
  rw [cells5A] at eg' ec'
  simp at eg' ec'
  subst eg' ec'
  obtain ⟨a1, a2⟩ := wf_u8 wg
  obtain ⟨a3, a4⟩ := wf_u8 wc
  refine ⟨(g.toNat, c.toNat), ?_, by show g.toNat < 256; omega, by show c.toNat < 256; omega⟩
  simp only
  rw [Int.toNat_of_nonneg a1, Int.toNat_of_nonneg a3]

theorem prs_of {a : Option Addr} {len cap : Nat} {x : DataW H × List MemPlace} (h : DataW.trod enc Yba.prog W 0 (fun _ => true) held fuel 24 [.slice a len cap] = some x) : len ≤ maxLen ∧ ∃ l, Prs W a len l := by
  obtain ⟨h1, l, hl, hc⟩ := slice_of (α := Nat × Nat) Yba.underlying24 cells68A (by omega) (fun p cs => cs = [.int .u8 (p.1 : Int), .int .u8 (p.2 : Int)] ∧ p.1 < 256 ∧ p.2 < 256) (fun n cs y hy => by
    obtain ⟨p, rfl, hp⟩ := pair_of hy
    exact ⟨p, ⟨rfl, hp⟩, rfl⟩) h
  refine ⟨h1, l, hl, fun x hx => ?_, fun i u v hx => ?_⟩
  · obtain ⟨i, hi⟩ := List.getElem?_of_mem hx
    obtain ⟨cs, ⟨_, h2⟩, _⟩ := hc i x hi
    exact h2
  · obtain ⟨cs, ⟨rfl, _⟩, ad, ha, hb, hj⟩ := hc i _ hx
    exact ⟨ad, ha, hb, by simpa using hj 0 (by omega), by simpa using hj 1 (by omega)⟩
end

end Go.Proofs.Ybulkbglm
