/-
  LawS2878BUndo: fail; the law's own closure.
-/
import Derived.Test.YbulkbgosForget
import Derived.Deep.RegionWith
import Derived.WalkSmall
namespace Go.Proofs.Ybulkbgos
open Go Go.RowKit Go.Maps Go.WideMaps
set_option linter.unusedSimpArgs false
set_option linter.unusedVariables false

set_option maxHeartbeats 4000000 in
theorem fail8 {pb : Nat} {pos : Int} {s : ByteArray} {w : World} (c1 : w.cell? ⟨pb, 1, none⟩ = some (.int .i64 pos)) :
    Calls Yba.prog 8 #[.pointer (some ⟨pb, 0, none⟩), .string s] w fun e w' => e = .panicked [{ v := .iface 45 (.pointer (some ⟨w.heap.size, 0, none⟩)), recovered := false }] ∧ w' = w.alloc (.cells #[.int .i64 pos, .string s] 49) := by
  go_enter Yba.func8, Yba.ntmps8
  go_wp2
  simp [bodyPost]

theorem cells_ne {A A' : Array Value} {t t' : TypeId} {fr fr' : Nat × Nat} (h : t ≠ t') : Obj.cells A t fr ≠ .cells A' t' fr' := fun e => h (by injection e)

/-- The array that mirrors the anchors. -/
def arr (f : Nat → Option Nat) : Array Value := #[ptrV (f 0), ptrV (f 1), ptrV (f 2), ptrV (f 3)]

theorem arr_set (f : Nat → Option Nat) {j : Nat} (hj : j < 4) (b : Nat) : (arr f).setIfInBounds j (.pointer (some ⟨b, 0, none⟩)) = arr (upd f j (some b)) := by
  rcases four hj with rfl | rfl | rfl | rfl <;> rfl

theorem arr_get (f : Nat → Option Nat) {j : Nat} (hj : j < 4) : (arr f)[j]? = some (ptrV (f j)) := by
  rcases four hj with rfl | rfl | rfl | rfl <;> rfl

theorem Ch.cell {a b : World} {X : Nat → Prop} (h : Ch a b X) {p : Addr} {v : Value} (hp : a.cell? p = some v) (hn : ¬ X p.block) : b.cell? p = some v := by
  have hlt : p.block < a.heap.size := by
    apply Nat.lt_of_not_le
    intro hle
    unfold World.cell? at hp
    have : a.heap[p.block]? = none := by rw [Array.getElem?_eq_none_iff]; exact hle
    simp [this] at hp
  have hb := h.block p.block hlt hn
  unfold World.cell? at hp ⊢
  rw [hb]
  exact hp

theorem add_block (x : Addr) (i : Nat) : (x.add i).block = x.block := by unfold Addr.add; split <;> rfl

section
variable {B pb mb ab cb : Nat} {U L : List (Nat × Option Nat)} {f f' : Nat → Option Nat} {src uv uv' uv2 : Value} {pos depth : Int} {w wr wc : World}

/-- One definition more. -/
theorem RPost_next' {i j : Nat} {o : Obj} (hL : L.length = i) (hch : Chain f L f') (hj : j < 4) (hac : ab ≠ cb) (nT : ¬ Tch pb mb uv' ab ∧ ¬ Tch pb mb uv' cb) (la : ab < wr.heap.size) (lc : cb < wr.heap.size)
    (hab : wr.heap[ab]? = some (.cells (arr f') 31 (0, 0))) (hcb : wr.heap[cb]? = some (.cells #[.int .i64 1] 3 (0, 0)))
    {X : Nat → Prop} (hX : X ab) (hC : Ch w wr X) (hT : ∀ q, Tch pb mb uv' q → X q ∨ w.heap.size ≤ q)
    (hS : S B pb mb ((U ++ L) ++ [(j, f' j)]) (upd f' j (some wr.heap.size)) src uv2 pos depth wc) (hC2 : Ch (wr.alloc o) wc (Tch pb mb uv')) (hT2 : ∀ q, Tch pb mb uv2 q → Tch pb mb uv' q ∨ (wr.alloc o).heap.size ≤ q) (nT2 : ¬ Tch pb mb uv2 ab) :
    ∃ L2 f2 uv2, L2.length = i + 1 ∧ Chain f L2 f2 ∧ S B pb mb (U ++ L2) f2 src uv2 pos depth (wc.setCell ⟨ab, j, none⟩ (.pointer (some ⟨wr.heap.size, 0, none⟩))) ∧ (wc.setCell ⟨ab, j, none⟩ (.pointer (some ⟨wr.heap.size, 0, none⟩))).heap[ab]? = some (.cells (arr f2) 31 (0, 0)) ∧ (wc.setCell ⟨ab, j, none⟩ (.pointer (some ⟨wr.heap.size, 0, none⟩))).heap[cb]? = some (.cells #[.int .i64 1] 3 (0, 0)) ∧
      Ch w (wc.setCell ⟨ab, j, none⟩ (.pointer (some ⟨wr.heap.size, 0, none⟩))) X ∧ (∀ q, Tch pb mb uv2 q → X q ∨ w.heap.size ≤ q) := by
  have hab2 := hC2.at (alloc_block hab) nT.1
  have hcb2 := hC2.at (alloc_block hcb) nT.2
  have hcs : Ch wc (wc.setCell ⟨ab, j, none⟩ (.pointer (some ⟨wr.heap.size, 0, none⟩))) (· = ab) := (Ch.refl wc _).set ab j _ (.inl rfl)
  refine ⟨L ++ [(j, f' j)], upd f' j (some wr.heap.size), uv2, by simp [hL], .snoc j _ hch hj, ?_, ?_, hcs.at hcb2 (fun e => hac e.symm), ?_, ?_⟩
  · rw [← List.append_assoc]
    exact hS.ch hcs (fun q hq ht => by rw [hq] at ht; exact nT2 ht)
  · rw [set_block hab2, arr_set _ hj]
  · refine hC.trans ?_
    have h2 : Ch wr wc (fun q => X q ∨ w.heap.size ≤ q) := ((Ch.refl wr _).alloc o).trans (hC2.mono (fun q hq => (hT q hq).elim (fun h => .inl (.inl h)) (fun h => .inl (.inr h))))
    exact h2.step (hcs.mono (fun q hq => .inl (by rw [hq]; exact hX)))
  · intro q hq
    rcases hT2 q hq with h | h
    · exact hT q h
    · right
      have := hC.size
      simp at h
      omega
end

/-- The variables that the closure has taken and does not write. -/
structure Bx (kb vb sb xb yb fb pb : Nat) (k : Nat) (sv : Value) (dx dy : Int) (fl : Bool) (w : World) : Prop where
  k : w.heap[kb]? = some (.cells #[.int .i64 (k : Int)] 3 (0, 0))
  v : w.heap[vb]? = some (.cells #[.pointer (some ⟨pb, 0, none⟩)] 23 (0, 0))
  s : w.heap[sb]? = some (.cells #[sv] 22 (0, 0))
  x : w.heap[xb]? = some (.cells #[.int .i64 dx] 3 (0, 0))
  y : w.heap[yb]? = some (.cells #[.int .i64 dy] 3 (0, 0))
  fl : w.heap[fb]? = some (.cells #[.bool fl] 4 (0, 0))

/-- What the closure may touch. -/
def Rch (pb mb : Nat) (uv : Value) (ab cb : Nat) : Nat → Prop := fun k => Tch pb mb uv k ∨ k = ab ∨ k = cb

/-- How the closure ends. -/
def REnd (fl : Bool) (e : Ending) : Prop :=
  (fl = false ∧ e = .returned (.tuple #[])) ∨ (fl = true ∧ ∃ nb, e = .panicked [{ v := .iface 45 (.pointer (some ⟨nb, 0, none⟩)), recovered := false }])

/-- What the closure leaves. -/
def RPost (B pb mb ab cb : Nat) (U : List (Nat × Option Nat)) (f : Nat → Option Nat) (src uv : Value) (pos depth : Int) (k : Nat) (w w' : World) : Prop :=
  ∃ L f' uv', L.length = k ∧ Chain f L f' ∧ S B pb mb (U ++ L) f' src uv' pos depth w' ∧ w'.heap[ab]? = some (.cells (arr f') 31 (0, 0)) ∧ w'.heap[cb]? = some (.cells #[.int .i64 1] 3 (0, 0)) ∧
    Ch w w' (Rch pb mb uv ab cb) ∧ (∀ q, Tch pb mb uv' q → Rch pb mb uv ab cb q ∨ w.heap.size ≤ q)

section
variable {B pb mb ab cb kb vb sb xb yb fb k : Nat} {U : List (Nat × Option Nat)} {f : Nat → Option Nat} {src uv sv : Value} {pos depth dx dy : Int} {fl : Bool} {w w' : World}

theorem Bx.ch {X : Nat → Prop} (h : Bx kb vb sb xb yb fb pb k sv dx dy fl w) (c : Ch w w' X) (h1 : ¬ X kb) (h2 : ¬ X vb) (h3 : ¬ X sb) (h4 : ¬ X xb) (h5 : ¬ X yb) (h6 : ¬ X fb) : Bx kb vb sb xb yb fb pb k sv dx dy fl w' :=
  ⟨c.at h.k h1, c.at h.v h2, c.at h.s h3, c.at h.x h4, c.at h.y h5, c.at h.fl h6⟩

theorem S.notRch (h : S B pb mb U f src uv pos depth w) {q t : Nat} {A : Array Value} {fr : Nat × Nat} (hq : w.heap[q]? = some (.cells A t fr)) (h29 : t ≠ 29) (h43 : t ≠ 43) (ha : q ≠ ab) (hc : q ≠ cb) : ¬ Rch pb mb uv ab cb q := by
  rintro (h1 | h1 | h1)
  · exact h.notTch hq h29 h43 h1
  · exact ha h1
  · exact hc h1
end

section
variable {B pb mb ab cb k : Nat} {U : List (Nat × Option Nat)} {f : Nat → Option Nat} {src uv : Value} {pos depth : Int} {w w' : World}
theorem RPost.drew (h : RPost B pb mb ab cb U f src uv pos depth k w w') : RPost B pb mb ab cb U f src uv pos depth k w w'.drew := by
  obtain ⟨L, f', uv', h1, h2, h3, h4, h5, h6, h7⟩ := h
  exact ⟨L, f', uv', h1, h2, h3.ch (Ch.refl _ (fun _ => False)).drew (fun q hq => hq.elim), h4, h5, h6.drew, h7⟩
theorem RPost.alloc (h : RPost B pb mb ab cb U f src uv pos depth k w w') (o : Obj) : RPost B pb mb ab cb U f src uv pos depth k w (w'.alloc o) := by
  obtain ⟨L, f', uv', h1, h2, h3, h4, h5, h6, h7⟩ := h
  exact ⟨L, f', uv', h1, h2, h3.alloc o, alloc_block h4, alloc_block h5, h6.alloc o, h7⟩
theorem RPost.set (h : RPost B pb mb ab cb U f src uv pos depth k w w') (i : Nat) (v : Value) (pos' depth' : Int) (hA : ∀ u, (pA src u mb pos depth).setIfInBounds i v = pA src u mb pos' depth') : RPost B pb mb ab cb U f src uv pos' depth' k w (w'.setCell ⟨pb, i, none⟩ v) := by
  obtain ⟨L, f', uv', h1, h2, h3, h4, h5, h6, h7⟩ := h
  obtain ⟨s1, s2⟩ := h3.set (Ch.refl w' (fun _ => False)) (fun q hq => hq.elim) i v (hA uv') h3.row
  have hc : Ch w' (w'.setCell ⟨pb, i, none⟩ v) (· = pb) := (Ch.refl w' _).set pb i v (.inl rfl)
  refine ⟨L, f', uv', h1, h2, s1, hc.at h4 (ne_block h4 h3.blk (cells_ne (by decide))), hc.at h5 (ne_block h5 h3.blk (cells_ne (by decide))), h6.step (hc.mono (fun q hq => .inl (.inl hq))), h7⟩
theorem RPost.blk (h : RPost B pb mb ab cb U f src uv pos depth k w w') : ∃ u, w'.heap[pb]? = some (.cells (pA src u mb pos depth) 29 (0, 0)) := by
  obtain ⟨L, f', uv', h1, h2, h3, h4⟩ := h
  exact ⟨uv', h3.blk⟩
theorem RPost.ch (h : RPost B pb mb ab cb U f src uv pos depth k w w') : Ch w w' (Rch pb mb uv ab cb) := by
  obtain ⟨L, f', uv', h1, h2, h3, h4, h5, h6, h7⟩ := h
  exact h6
end

set_option maxHeartbeats 16000000 in
set_option maxRecDepth 100000 in
theorem read7 {B pb mb ab cb kb vb sb xb yb fb k : Nat} {U : List (Nat × Option Nat)} {f : Nat → Option Nat} {src uv : Value} {sa : Option Addr} {sl sc : Nat} {pos depth dx dy : Int} {fl : Bool} {w : World} (z : Nat → Int)
    (h : S B pb mb U f src uv pos depth w) (hB : Bx kb vb sb xb yb fb pb k (.slice sa sl sc) dx dy fl w) (hab : w.heap[ab]? = some (.cells (arr f) 31 (0, 0))) (hcb : w.heap[cb]? = some (.cells #[.int .i64 0] 3 (0, 0)))
    (n1 : kb ≠ cb) (n2 : xb ≠ cb) (n3 : yb ≠ cb) (lab : B ≤ ab) (lcb : B ≤ cb)
    (hst : ∀ i, i < k → i < sl ∧ ∃ x, sa = some x ∧ x.block < B ∧ w.cell? (x.add i) = some (.int .u8 (z i))) (hz : ∀ i, i < k → 0 ≤ z i ∧ z i < 256) (hU : U.length ≤ 1024) (hk : k ≤ 1024) :
    Calls Yba.prog 7 #[.pointer (some ⟨cb, 0, none⟩), .pointer (some ⟨kb, 0, none⟩), .pointer (some ⟨vb, 0, none⟩), .pointer (some ⟨sb, 0, none⟩), .pointer (some ⟨ab, 0, none⟩), .pointer (some ⟨xb, 0, none⟩), .pointer (some ⟨yb, 0, none⟩), .pointer (some ⟨fb, 0, none⟩)] w fun e w' =>
      REnd fl e ∧ RPost B pb mb ab cb U f src uv (wrap64 (pos + dx)) (wrap64 (depth + dy)) k w w' := by
  have q1 := h.notRch (ab := ab) (cb := cb) hB.k (by decide) (by decide) (ne_block hB.k hab (cells_ne (by decide))) n1
  have q2 := h.notRch (ab := ab) (cb := cb) hB.v (by decide) (by decide) (ne_block hB.v hab (cells_ne (by decide))) (ne_block hB.v hcb (cells_ne (by decide)))
  have q3 := h.notRch (ab := ab) (cb := cb) hB.s (by decide) (by decide) (ne_block hB.s hab (cells_ne (by decide))) (ne_block hB.s hcb (cells_ne (by decide)))
  have q4 := h.notRch (ab := ab) (cb := cb) hB.x (by decide) (by decide) (ne_block hB.x hab (cells_ne (by decide))) n2
  have q5 := h.notRch (ab := ab) (cb := cb) hB.y (by decide) (by decide) (ne_block hB.y hab (cells_ne (by decide))) n3
  have q6 := h.notRch (ab := ab) (cb := cb) hB.fl (by decide) (by decide) (ne_block hB.fl hab (cells_ne (by decide))) (ne_block hB.fl hcb (cells_ne (by decide)))
  have hac : ab ≠ cb := ne_block hab hcb (cells_ne (by decide))
  have tab := h.notTch hab (by decide) (by decide)
  have tcb := h.notTch hcb (by decide) (by decide)
  have hlo : ∀ q, Rch pb mb uv ab cb q → B ≤ q := by
    rintro q (h1 | rfl | rfl)
    · exact h.tch_lo q h1
    · exact lab
    · exact lcb
  have c0 : w.cell? ⟨cb, 0, none⟩ = some (.int .i64 0) := cell_block hcb rfl
  have f0 := frozen_block (i := 0) hcb
  have HQ : Hid (¬ Rch pb mb uv ab cb kb ∧ ¬ Rch pb mb uv ab cb vb ∧ ¬ Rch pb mb uv ab cb sb ∧ ¬ Rch pb mb uv ab cb xb ∧ ¬ Rch pb mb uv ab cb yb ∧ ¬ Rch pb mb uv ab cb fb) := ⟨q1, q2, q3, q4, q5, q6⟩
  have HLo := hid hlo
  have HSt := hid hst
  have HZ := hid hz
  have HBx := hid hB
  have HAC := hid hac
  -- behind calls++
  have H1 : Hid (RPost B pb mb ab cb U f src uv pos depth 0 w (w.setCell ⟨cb, 0, none⟩ (.int .i64 1))) := by
    have hc1 : Ch w (w.setCell ⟨cb, 0, none⟩ (.int .i64 1)) (· = cb) := (Ch.refl w _).set cb 0 _ (.inl rfl)
    refine ⟨[], f, uv, rfl, .nil, ?_, hc1.at hab hac, by rw [set_block hcb]; rfl, hc1.mono (fun q hq => .inr (.inr hq)), fun q hq => .inl (.inl hq)⟩
    rw [List.append_nil]
    exact h.ch hc1 (fun q hq ht => by rw [hq] at ht; exact tcb ht)
  clear h hB hab hcb n1 n2 n3 lab lcb hst hz q1 q2 q3 q4 q5 q6 hac tab tcb hlo
  go_enter Yba.func7, Yba.ntmps7
  go_wp2
  go_loopg [8] k (fun n s8 wr => ∃ i : Nat, i + n = k ∧ s8 = .int .i64 i ∧ RPost B pb mb ab cb U f src uv pos depth i w wr)
  case atStart => exact ⟨0, by omega, rfl, H1.out⟩
  case round =>
    obtain ⟨i, hik, rfl, L, f', uv', hL, hch, hS, hab, hcb, hC, hT⟩ := hrel
    clear H1
    have hBx := HBx.out.ch hC HQ.out.1 HQ.out.2.1 HQ.out.2.2.1 HQ.out.2.2.2.1 HQ.out.2.2.2.2.1 HQ.out.2.2.2.2.2
    have c1 : wr.cell? ⟨kb, 0, none⟩ = some (.int .i64 (k : Int)) := cell_block hBx.k rfl
    by_cases hlt : i < k
    · obtain ⟨hil, x, hsa, hxB, hcx⟩ := HSt.out i hlt
      obtain ⟨hz0, hz1⟩ := HZ.out i hlt
      subst hsa
      have hcx' := hC.cell hcx (fun hq => by have := HLo.out _ hq; rw [add_block] at this; omega)
      obtain ⟨j, hj, hjz⟩ : ∃ j : Nat, j < 4 ∧ z i % 4 = (j : Int) := ⟨(z i % 4).toNat, by omega, by omega⟩
      have HN : Hid (∀ W, Calls Yba.prog 5 #[.int .u8 (z i)] W fun e w' => e = .returned (.string (nameB j)) ∧ w' = W) := by
        intro W
        have := name5 (z i) hz0 hz1 W
        rw [hjz] at this
        exact this
      obtain ⟨o, ho⟩ : ∃ o, o = Obj.cells #[.int .i64 0, .int .i64 0, .string ⟨#[]⟩, .string ⟨#[]⟩, .string ⟨#[]⟩, .slice none 0 0, .pointer none, .int .i64 (i : Int)] 36 := ⟨_, rfl⟩
      have hS1 := hS.alloc o
      have hB1 := hBx.ch (X := fun _ => False) ((Ch.refl wr _).alloc o) id id id id id id
      have c2 : (wr.alloc o).cell? ⟨vb, 0, none⟩ = some (.pointer (some ⟨pb, 0, none⟩)) := cell_block hB1.v rfl
      have c3 : (wr.alloc o).cell? ⟨sb, 0, none⟩ = some (.slice (some x) sl sc) := cell_block hB1.s rfl
      have c6 := ((Ch.refl wr (fun _ => False)).alloc o).cell hcx' id
      have HD := hid (define4 (hS1.ch (Ch.refl _ (fun _ => False)).drew (fun q hq => hq.elim)) hj wr.heap.size (by simp; omega))
      have hab1 := alloc_block (o := o) hab
      have nTa := hS.notTch hab (by decide) (by decide)
      have nTc := hS.notTch hcb (by decide) (by decide)
      have HALL := hid (And.intro hL (And.intro hch (And.intro hab (And.intro hcb (And.intro hC (And.intro hT hS))))))
      have HNT := hid (And.intro nTa nTc)
      have HB1 := hid hB1
      clear hL hch hab hcb hC hT hS nTa nTc hB1 hS1 hBx hab1 hcx
      go_wp2_with fail
      rw [← ho]
      generalize hwn : wr.alloc o = wn at *
      go_upto_region 5 with fail
      go_cut [] (fun wx => ∃ uv2, S B pb mb ((U ++ L) ++ [(j, f' j)]) (upd f' j (some wr.heap.size)) src uv2 pos depth wx ∧ Ch wn wx (Tch pb mb uv') ∧ (∀ q, Tch pb mb uv2 q → Tch pb mb uv' q ∨ wn.heap.size ≤ q))
      case first =>
        go_region_with (first | (go_at_call 5; refine (HN.out _).mono ?_; rintro e w' ⟨rfl, rfl⟩) | (go_at_call 4; refine HD.out.mono ?_; rintro e w' ⟨rfl, hD⟩))
        all_goals (
          go_wp2_with fail
          go_meet
          obtain ⟨uv2, hS2, hC2, hT2⟩ := hD
          exact ⟨uv2, hS2, ⟨hC2.os, hC2.tape, hC2.output, hC2.size, hC2.block⟩, hT2⟩)
      case rest =>
      obtain ⟨uv2, hS2, hC2, hT2⟩ := hcut
      obtain ⟨hL, hch, hab, hcb, hC, hT, hS⟩ := HALL.out
      obtain ⟨nTa, nTc⟩ := HNT.out
      subst hwn
      have hab2 := hC2.at (alloc_block hab) nTa
      have hBr := HBx.out.ch hC HQ.out.1 HQ.out.2.1 HQ.out.2.2.1 HQ.out.2.2.2.1 HQ.out.2.2.2.2.1 HQ.out.2.2.2.2.2
      have hsb2 := hC2.at HB1.out.s (hS.notTch hBr.s (by decide) (by decide))
      clear c2 c3
      have c3 : wc.cell? ⟨sb, 0, none⟩ = some (.slice (some x) sl sc) := cell_block hsb2 rfl
      have c6' := hC2.cell c6 (fun hq => by have := hS.tch_lo _ hq; rw [add_block] at this; omega)
      have ca : wc.cell? ⟨ab, j, none⟩ = some (ptrV (f' j)) := cell_block hab2 (arr_get f' hj)
      have fa := frozen_block (i := j) hab2
      have FR := hid (RPost_next' hL hch hj HAC.out ⟨nTa, nTc⟩ (lt_block hab) (lt_block hcb) hab hcb (X := Rch pb mb uv ab cb) (.inr (.inl rfl)) hC hT hS2 hC2 hT2 (hS2.notTch hab2 (by decide) (by decide)))
      have hji : (j : Int) < 4 := by omega
      clear HALL HNT HB1 HN HD hS2 hC2 hT2 hL hch hab hcb hC hT hS nTa nTc hab2 hBr hsb2 hcx' c6 c1
      go_wp2
      go_roundg (gk - 1)
      case measure => omega
      case rel => exact ⟨i + 1, by omega, by go_num, FR.out⟩
    · obtain rfl : i = k := by omega
      have HP : Hid (RPost B pb mb ab cb U f src uv pos depth i w wr) := ⟨L, f', uv', hL, hch, hS, hab, hcb, hC, hT⟩
      clear hL hch hS hab hcb hC hT
      have c2 : wr.cell? ⟨vb, 0, none⟩ = some (.pointer (some ⟨pb, 0, none⟩)) := cell_block hBx.v rfl
      have c3 : wr.cell? ⟨xb, 0, none⟩ = some (.int .i64 dx) := cell_block hBx.x rfl
      obtain ⟨u1, hb1⟩ := HP.out.blk
      have d1 : wr.cell? ⟨pb, 1, none⟩ = some (.int .i64 pos) := cell_block hb1 rfl
      have f1 := frozen_block (i := 1) hb1
      have HP1 := hid ((HP.out.set 1 (.int .i64 (wrap64 (pos + dx))) (wrap64 (pos + dx)) depth (fun u => rfl)).drew)
      clear hBx hb1
      go_upto_region 7 with fail
      go_cut [] (fun wx => RPost B pb mb ab cb U f src uv (wrap64 (pos + dx)) depth i w wx)
      case first =>
        go_region
        all_goals (go_wp2_with fail; go_meet; exact HP1.out)
      case rest =>
      clear HP HP1 c1 c2 c3 d1 f1
      have HP := hid hcut
      have hBx := HBx.out.ch hcut.ch HQ.out.1 HQ.out.2.1 HQ.out.2.2.1 HQ.out.2.2.2.1 HQ.out.2.2.2.2.1 HQ.out.2.2.2.2.2
      have c2 : wc.cell? ⟨vb, 0, none⟩ = some (.pointer (some ⟨pb, 0, none⟩)) := cell_block hBx.v rfl
      have c3 : wc.cell? ⟨yb, 0, none⟩ = some (.int .i64 dy) := cell_block hBx.y rfl
      obtain ⟨u2, hb2⟩ := HP.out.blk
      have d1 : wc.cell? ⟨pb, 6, none⟩ = some (.int .i64 depth) := cell_block hb2 rfl
      have f1 := frozen_block (i := 6) hb2
      have HP1 := hid ((HP.out.set 6 (.int .i64 (wrap64 (depth + dy))) (wrap64 (pos + dx)) (wrap64 (depth + dy)) (fun u => rfl)).drew)
      clear hBx hb2 hcut
      go_upto_region 8 with fail
      go_cut [] (fun wx => RPost B pb mb ab cb U f src uv (wrap64 (pos + dx)) (wrap64 (depth + dy)) i w wx)
      case first =>
        go_region
        all_goals (go_wp2_with fail; go_meet; exact HP1.out)
      case rest =>
      clear HP HP1 c2 c3 d1 f1
      have HP := hid hcut
      have hBx := HBx.out.ch hcut.ch HQ.out.1 HQ.out.2.1 HQ.out.2.2.1 HQ.out.2.2.2.1 HQ.out.2.2.2.2.1 HQ.out.2.2.2.2.2
      have c2 : wc.cell? ⟨vb, 0, none⟩ = some (.pointer (some ⟨pb, 0, none⟩)) := cell_block hBx.v rfl
      have c3 : wc.cell? ⟨fb, 0, none⟩ = some (.bool fl) := cell_block hBx.fl rfl
      obtain ⟨u3, hb3⟩ := HP.out.blk
      have HF := hid (fail8 (s := ⟨#[112, 108, 97, 110, 110, 101, 100]⟩) (cell_block (i := 1) (v := .int .i64 (wrap64 (pos + dx))) hb3 rfl))
      clear hBx hb3 hcut
      cases fl with
      | false =>
        go_wp2
        go_end0
        exact ⟨.inl ⟨rfl, rfl⟩, HP.out⟩
      | true =>
        go_wp2_with (go_at_call 8; refine HF.out.mono ?_; rintro e w' ⟨rfl, rfl⟩)
        have FE : REnd true (.panicked [{ v := .iface 45 (.pointer (some ⟨wc.heap.size, 0, none⟩)), recovered := false }]) ∧ RPost B pb mb ab cb U f src uv (wrap64 (pos + dx)) (wrap64 (depth + dy)) i w (wc.alloc (.cells #[.int .i64 (wrap64 (pos + dx)), .string ⟨#[112, 108, 97, 110, 110, 101, 100]⟩] 49)) := ⟨.inr ⟨rfl, _, rfl⟩, HP.out.alloc _⟩
        simpa [bodyPost] using FE

end Go.Proofs.Ybulkbgos
