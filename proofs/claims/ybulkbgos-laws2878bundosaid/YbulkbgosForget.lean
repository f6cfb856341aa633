/-
  LawS2878BUndo: forget.
-/
import Derived.Test.YbulkbgosDef
import Derived.Deep.CutBlock
namespace Go.Proofs.Ybulkbgos
open Go Go.RowKit Go.Maps Go.WideMaps
set_option linter.unusedSimpArgs false
set_option linter.unusedVariables false

theorem uC_at (U : List (Nat × Option Nat)) (j : Nat) (o : Option Nat) : (uC (U ++ [(j, o)]))[U.length * 2]? = some (.string (nameB j)) ∧ (uC (U ++ [(j, o)]))[U.length * 2 + 1]? = some (ptrV o) := by
  rw [uC_snoc]
  constructor
  · rw [List.getElem?_append_right (by rw [uC_length]; exact Nat.le_refl _), uC_length, Nat.sub_self]; rfl
  · rw [List.getElem?_append_right (by rw [uC_length]; omega), uC_length, Nat.add_sub_cancel_left]; rfl

theorem S.slice {B pb mb : Nat} {U : List (Nat × Option Nat)} {f : Nat → Option Nat} {src uv : Value} {pos depth : Int} {w : World} (h : S B pb mb U f src uv pos depth w) (hU : U ≠ []) :
    ∃ g cap, uv = .slice (some ⟨g, 0, none⟩) U.length cap ∧ U.length ≤ cap ∧ cap ≤ maxLen := by
  rcases h.row.2 with ⟨-, h0⟩ | ⟨g, cap, cur, rfl, -, -, h1, h2, -⟩
  · exact absurd (List.length_eq_zero_iff.1 h0) hU
  · exact ⟨g, cap, rfl, h1, h2⟩

theorem S.isSlice {B pb mb : Nat} {U : List (Nat × Option Nat)} {f : Nat → Option Nat} {src uv : Value} {pos depth : Int} {w : World} (h : S B pb mb U f src uv pos depth w) :
    ∃ a c, uv = .slice a U.length c := by
  rcases h.row.2 with ⟨rfl, h0⟩ | ⟨g, cap, cur, rfl, -⟩
  · exact ⟨none, 0, by rw [h0]⟩
  · exact ⟨_, cap, rfl⟩

theorem S.cut {B : Nat} {U : List (Nat × Option Nat)} {j : Nat} {o : Option Nat} {g n cap : Nat} {w : World} (h : w.ownsRow B 43 2 (.slice (some ⟨g, 0, none⟩) n cap) (U ++ [(j, o)]).length (uC (U ++ [(j, o)]))) :
    w.ownsRow B 43 2 (.slice (some ⟨g, 0, none⟩) U.length cap) U.length (uC U) := by
  refine ⟨uC_length U, ?_⟩
  rcases h.2 with ⟨h0, -⟩ | ⟨g', cap', cur, hv, h0, hg, h1, h2, h3, h4⟩
  · cases h0
  · injection hv with e1 e2 e3
    injection e1 with e1
    injection e1 with e1
    subst e1 e3
    refine .inr ⟨g, cap, cur, rfl, h0, hg, by simp at h1; omega, h2, h3, ?_⟩
    have : (cur.toList.take ((U ++ [(j, o)]).length * 2)).take (U.length * 2) = (uC (U ++ [(j, o)])).take (U.length * 2) := by rw [h4]
    rw [List.take_take, uC_snoc, Nat.min_eq_left (by simp; omega), List.take_left' (uC_length U)] at this
    exact this

set_option maxHeartbeats 16000000 in
set_option maxRecDepth 100000 in
theorem forget10 {B pb mb : Nat} {U0 L : List (Nat × Option Nat)} {f0 f : Nat → Option Nat} {src uv : Value} {pos depth : Int} {w : World} (hch : Chain f0 L f) (h : S B pb mb (U0 ++ L) f src uv pos depth w) (hU : (U0 ++ L).length ≤ 4096) :
    Calls Yba.prog 10 #[.pointer (some ⟨pb, 0, none⟩), .int .i64 U0.length] w fun e w' =>
      e = .returned (.tuple #[]) ∧ ∃ uv', S B pb mb U0 f0 src uv' pos depth w' ∧ Ch w w' (Tch pb mb uv) ∧ uv'.ownBlock = uv.ownBlock := by
  have HI := hid (show ∃ L' f' uv', L'.length = L.length ∧ Chain f0 L' f' ∧ S B pb mb (U0 ++ L') f' src uv' pos depth w ∧ Ch w w (Tch pb mb uv) ∧ uv'.ownBlock = uv.ownBlock from ⟨L, f, uv, rfl, hch, h, Ch.refl _ _, rfl⟩)
  have hL : U0.length + L.length ≤ 4096 := by simpa using hU
  clear h hch hU
  go_enter Yba.func10, Yba.ntmps10
  go_wp2_with fail
  go_loopg [] L.length (fun k wr => k ≤ L.length ∧ ∃ L' f' uv', L'.length = k ∧ Chain f0 L' f' ∧ S B pb mb (U0 ++ L') f' src uv' pos depth wr ∧ Ch w wr (Tch pb mb uv) ∧ uv'.ownBlock = uv.ownBlock)
  case atStart => exact ⟨Nat.le_refl _, HI.out⟩
  case round =>
    obtain ⟨hgk, L', f', uv', hLk, hch, hS, hC, hown⟩ := hrel
    clear HI
    by_cases hn : L' = []
    · subst hn
      have hf := hch.none
      subst hf
      rw [List.append_nil] at hS
      obtain ⟨sa, sc, hsl⟩ := hS.isSlice
      have c5 : wr.cell? ⟨pb, 5, none⟩ = some uv' := cell_block hS.blk rfl
      have HE := hid (show ∃ uv', S B pb mb U0 f' src uv' pos depth wr ∧ Ch w wr (Tch pb mb uv) ∧ uv'.ownBlock = uv.ownBlock from ⟨uv', hS, hC, hown⟩)
      rw [hsl] at c5
      clear hS hC hown hch hsl
      go_wp2
      go_end0
      exact ⟨rfl, HE.out⟩
    · obtain ⟨L2, j, f2, rfl, hj, hch2, hup⟩ := hch.last hn
      rw [← List.append_assoc] at hS
      obtain ⟨g, cap, rfl, hc1, hc2⟩ := hS.slice (by simp)
      obtain ⟨V, hV⟩ : ∃ V, V = U0 ++ L2 := ⟨_, rfl⟩
      rw [← hV] at hS hc1
      have hVl : V.length ≤ U0.length + L2.length := by rw [hV]; simp
      have hVg : U0.length + L2.length ≤ V.length := by rw [hV]; simp
      have hLq : L2.length + 1 = gk := by simpa using hLk
      have hLl : L2.length + 1 ≤ gk := Nat.le_of_eq hLq
      have hLg : gk ≤ L2.length + 1 := Nat.le_of_eq hLq.symm
      clear hLq
      have eV : (V ++ [(j, f2 j)]).length = V.length + 1 := by simp
      rw [eV] at hS
      rw [eV] at hc1
      obtain ⟨px, hpx⟩ : ∃ px, ptrV (f2 j) = .pointer px := by cases f2 j <;> exact ⟨_, rfl⟩
      have c5 : wr.cell? ⟨pb, 5, none⟩ = some (.slice (some ⟨g, 0, none⟩) (V.length + 1) cap) := cell_block hS.blk rfl
      have lt1 : pb < wr.heap.size := lt_block hS.blk
      have hat := uC_at V j (f2 j)
      have r0 : wr.cell? ⟨g, V.length * 2, none⟩ = some (.string (nameB j)) := by have := hS.row.cells (g := g) rfl _ _ hat.1; rw [add0] at this; exact this
      have r1 : wr.cell? ⟨g, V.length * 2 + 1, none⟩ = some (.pointer px) := by have := hS.row.cells (g := g) rfl _ _ hat.2; rw [add0, hpx] at this; exact this
      have glt : g < wr.heap.size := (hS.row.lt g rfl).2
      have HS := hid hS
      have HC := hid hC
      have HCh := hid hch2
      have HUp := hid hup
      have HPx := hid hpx
      have HOwn := hid hown
      have HVV := hid hV
      clear hS hC hch hch2 hup hpx hat hn hLk hown hV eV
      go_upto_region 1 with fail
      go_cut [4] (fun s4 wx => s4 = .pointer (some ⟨wr.heap.size, 0, none⟩) ∧ wx.heap[wr.heap.size]? = some (.cells #[.string (nameB j), .pointer px] 43 (0, 0)) ∧ Ch wr wx (fun _ => False))
      case first =>
        go_region
        all_goals (go_wp2_with fail; go_meet; exact ⟨rfl, heap_alloc_new _ _, ((Ch.refl _ _).alloc _).drew⟩)
      case rest =>
      obtain ⟨rfl, hq, hCq⟩ := hcut
      have hS1 := HS.out.ch hCq (fun k hk => hk.elim)
      have HS1 := hid hS1
      have HQ := hid hq
      have HCq := hid hCq
      clear c5 lt1 r0 r1
      have c5 : wc.cell? ⟨pb, 5, none⟩ = some (.slice (some ⟨g, 0, none⟩) (V.length + 1) cap) := cell_block hS1.blk rfl
      have f5 := frozen_block (i := 5) hS1.blk
      have nq : ∀ k, Tch pb mb (.slice (some ⟨g, 0, none⟩) (V.length + 1) cap) k → k < wr.heap.size := by
        rintro k (rfl | rfl | hk)
        · exact lt_block HS.out.blk
        · obtain ⟨D, hm, -⟩ := HS.out.map
          exact lt_block (ownsMap_block hm).choose_spec.choose_spec
        · exact (HS.out.row.lt k hk).2
      have HNq := hid nq
      have hset := hS1.set (Ch.refl wc (fun _ => False)) (fun k hk => hk.elim) (U' := V) (uv' := .slice (some ⟨g, 0, none⟩) V.length cap) (pos' := pos) (depth' := depth) 5 (.slice (some ⟨g, 0, none⟩) V.length cap) rfl (S.cut hS1.row)
      have hTT : ∀ k, Tch pb mb (.slice (some ⟨g, 0, none⟩) (V.length + 1) cap) k → Tch pb mb uv k := by
        rintro k (rfl | rfl | hk)
        · exact .inl rfl
        · exact .inr (.inl rfl)
        · exact .inr (.inr (HOwn.out ▸ hk))
      have FS := hid (hset.1.ch (Ch.refl _ (fun _ => False)).drew (fun k hk => hk.elim))
      have FQ : Hid ((wc.setCell ⟨pb, 5, none⟩ (.slice (some ⟨g, 0, none⟩) V.length cap)).drew.heap[wr.heap.size]? = some (.cells #[.string (nameB j), .pointer px] 43 (0, 0))) := hset.2.at hq (fun ht => by have := nq _ ht; omega)
      have FC := hid ((HC.out.step ((hCq.mono (fun k hk => hk.elim)).step (hset.2.mono hTT))).drew)
      clear hS1 hq hCq nq hset hTT
      go_upto_region 2 with fail
      go_cut [] (fun wx => S B pb mb V f' src (.slice (some ⟨g, 0, none⟩) V.length cap) pos depth wx ∧ wx.heap[wr.heap.size]? = some (.cells #[.string (nameB j), .pointer px] 43 (0, 0)) ∧ Ch w wx (Tch pb mb uv))
      case first =>
        go_region
        all_goals (go_wp2_with fail; go_meet; exact ⟨FS.out, FQ.out, FC.out⟩)
      case rest =>
      obtain ⟨hS2, hq2, hC2⟩ := hcut
      clear c5 f5 FS FQ FC HS1 HQ HCq HNq HS HC
      have k0 : wc.cell? ⟨wr.heap.size, 0, none⟩ = some (.string (nameB j)) := cell_block hq2 rfl
      have k1 : wc.cell? ⟨wr.heap.size, 1, none⟩ = some (.pointer px) := cell_block hq2 rfl
      have c4 : wc.cell? ⟨pb, 4, none⟩ = some (.map (some mb)) := cell_block hS2.blk rfl
      have HO : Hid ((Value.slice (some ⟨g, 0, none⟩) V.length cap).ownBlock = uv.ownBlock) := HOwn.out
      have hTT : ∀ k, Tch pb mb (.slice (some ⟨g, 0, none⟩) V.length cap) k → Tch pb mb uv k := by
        rintro k (rfl | rfl | hk)
        · exact .inl rfl
        · exact .inr (.inl rfl)
        · exact .inr (.inr (HO.out ▸ hk))
      cases hfj : f2 j with
      | none =>
        have hpx := HPx.out
        rw [hfj] at hpx
        injection hpx with hpx
        subst hpx
        obtain ⟨w3, hrun, hS3, hC3⟩ := (hS2.ch (Ch.refl wc (fun _ => False)).drew (fun k hk => hk.elim)).del hj 0
        have hup := HUp.out
        rw [hfj] at hup
        rw [hup, HVV.out] at hS3
        rw [HVV.out] at HO
        have FR := hid (show ∃ L' f' uv', L'.length = L2.length ∧ Chain f0 L' f' ∧ S B pb mb (U0 ++ L') f' src uv' pos depth w3 ∧ Ch w w3 (Tch pb mb uv) ∧ uv'.ownBlock = uv.ownBlock from ⟨L2, f2, _, rfl, HCh.out, hS3, hC2.drew.step (hC3.mono hTT), HO.out⟩)
        clear hS2 hq2 hC2 hS3 hC3 hup hTT HO HPx HUp HCh HVV HOwn hfj
        go_upto_region 4 with fail
        go_region
        all_goals (
          go_wp2
          go_roundg L2.length
          case measure => omega
          case rel => exact ⟨by omega, FR.out⟩)
      | some b =>
        have hpx := HPx.out
        rw [hfj] at hpx
        injection hpx with hpx
        subst hpx
        obtain ⟨w3, hrun, hS3, hC3⟩ := (hS2.ch (Ch.refl wc (fun _ => False)).drew (fun k hk => hk.elim)).put hj b
        have hup := HUp.out
        rw [hfj] at hup
        rw [hup, HVV.out] at hS3
        rw [HVV.out] at HO
        have hrun' : (Instr.mapUpdate 24 (.map (some mb)) (.string (nameB j)) (.pointer (some ⟨b, 0, none⟩))).run Yba.prog wc.drew = .ok () w3 := hrun
        have FR := hid (show ∃ L' f' uv', L'.length = L2.length ∧ Chain f0 L' f' ∧ S B pb mb (U0 ++ L') f' src uv' pos depth w3 ∧ Ch w w3 (Tch pb mb uv) ∧ uv'.ownBlock = uv.ownBlock from ⟨L2, f2, _, rfl, HCh.out, hS3, hC2.drew.step (hC3.mono hTT), HO.out⟩)
        clear hS2 hq2 hC2 hS3 hC3 hup hTT HO HPx HUp HCh HVV HOwn hfj hrun
        go_upto_region 5 with fail
        go_region
        all_goals (
          go_wp2
          go_roundg L2.length
          case measure => omega
          case rel => exact ⟨by omega, FR.out⟩)

end Go.Proofs.Ybulkbgos
