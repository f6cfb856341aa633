/-
  LawS2878BUndo: the plain law of the undo log, and the parser's memory.
-/
import Derived.Test.YbulkbgosRows
import Derived.WalkKit
import Derived.Maps.OwnSet
import Derived.Maps.AppendAt
import Derived.StringKeys
import Derived.Below
import Derived.Deep.Quiet
import Derived.BigQuiet
namespace Go.Proofs.Ybulkbgos
open Go Go.RowKit Go.Maps Go.WideMaps
set_option linter.unusedSimpArgs false
set_option linter.unusedVariables false

theorem hid {p : Prop} (h : p) : Hid p := h

/-! ### The plain law -/
def upd (f : Nat → Option Nat) (j : Nat) (o : Option Nat) : Nat → Option Nat := fun i => if i = j then o else f i

theorem upd_same (f : Nat → Option Nat) (j : Nat) (o : Option Nat) : upd f j o j = o := if_pos rfl
theorem upd_other (f : Nat → Option Nat) {i j : Nat} (o : Option Nat) (h : i ≠ j) : upd f j o i = f i := if_neg h
theorem upd_back (f : Nat → Option Nat) (j : Nat) (o : Option Nat) : upd (upd f j o) j (f j) = f := by
  funext i
  unfold upd
  split
  · next h => rw [h]
  · rfl

/-- The log L leads from f0 to f. -/
inductive Chain (f0 : Nat → Option Nat) : List (Nat × Option Nat) → (Nat → Option Nat) → Prop
  | nil : Chain f0 [] f0
  | snoc {L : List (Nat × Option Nat)} {f : Nat → Option Nat} (j b : Nat) : Chain f0 L f → j < 4 → Chain f0 (L ++ [(j, f j)]) (upd f j (some b))

theorem Chain.none {f0 f : Nat → Option Nat} (h : Chain f0 [] f) : f = f0 := by
  generalize hL : ([] : List (Nat × Option Nat)) = L at h
  cases h with
  | nil => rfl
  | snoc j b h hj => simp at hL

theorem Chain.last {f0 f : Nat → Option Nat} {L : List (Nat × Option Nat)} (h : Chain f0 L f) (hn : L ≠ []) : ∃ L' j f', L = L' ++ [(j, f' j)] ∧ j < 4 ∧ Chain f0 L' f' ∧ upd f j (f' j) = f' := by
  cases h with
  | nil => exact absurd rfl hn
  | snoc j b h hj => exact ⟨_, j, _, rfl, hj, h, upd_back _ _ _⟩

def nameL (j : Nat) : List UInt8 := if j = 0 then [97] else if j = 1 then [98] else if j = 2 then [99] else [100]
def nameB (j : Nat) : ByteArray := ⟨(nameL j).toArray⟩
theorem nameB_list (j : Nat) : (nameB j).data.toList = nameL j := rfl
theorem nameB_size (j : Nat) : (nameB j).size ≤ maxLen := by
  have h : (nameB j).size = (nameL j).length := by show ((nameL j).toArray).size = _; simp
  rw [h]
  unfold nameL maxLen
  split
  · simp
  · split
    · simp
    · split <;> simp

theorem four {i : Nat} (h : i < 4) : i = 0 ∨ i = 1 ∨ i = 2 ∨ i = 3 := by omega
theorem nameL_inj {i j : Nat} (hi : i < 4) (hj : j < 4) (h : nameL i = nameL j) : i = j := by
  rcases four hi with rfl | rfl | rfl | rfl <;> rcases four hj with rfl | rfl | rfl | rfl <;> first | rfl | exact absurd h (by decide)

def ptrV : Option Nat → Value
  | .none => .pointer .none
  | some b => .pointer (some ⟨b, 0, .none⟩)
def encP : Option Nat → DataW Unit
  | .none => .nil
  | some b => .lit (.int .i64 b)
def ptrR : Value → Option (DataW Unit × List MemPlace)
  | .pointer .none => some (.nil, [])
  | .pointer (some ⟨b, 0, .none⟩) => some (.lit (.int .i64 b), [])
  | _ => .none

theorem ptrR_mk (o : Option Nat) : ptrR (ptrV o) = some (encP o, []) := by cases o <;> rfl
theorem ptrR_inv {v : Value} {o : Option Nat} {ps : List MemPlace} (h : ptrR v = some (encP o, ps)) : v = ptrV o := by
  unfold ptrR at h
  split at h
  · cases o with
    | none => rfl
    | some b => simp [encP] at h
  · cases o with
    | none => simp [encP] at h
    | some b => simp [encP] at h; obtain ⟨h, -⟩ := h; simp [ptrV, h]
  · cases h

def c1 (o : Option Nat) : Nat := if o.isSome then 1 else 0
def cnt4 (f : Nat → Option Nat) : Nat := c1 (f 0) + c1 (f 1) + c1 (f 2) + c1 (f 3)
theorem c1_le (o : Option Nat) : c1 o ≤ 1 := by unfold c1; split <;> omega
theorem cnt4_le (f : Nat → Option Nat) : cnt4 f ≤ 4 := by
  have := c1_le (f 0); have := c1_le (f 1); have := c1_le (f 2); have := c1_le (f 3)
  unfold cnt4; omega
theorem cnt4_upd (f : Nat → Option Nat) {j : Nat} (hj : j < 4) (o : Option Nat) : cnt4 (upd f j o) + c1 (f j) = cnt4 f + c1 o := by
  rcases four hj with rfl | rfl | rfl | rfl <;> simp [cnt4, upd] <;> omega

/-- The map's datum reads as f. -/
structure MapIs (D : DataW Unit) (f : Nat → Option Nat) : Prop where
  tidy : Tidy D
  has : ∀ j, j < 4 → Maps.has D (.string (nameL j)) = (f j).isSome
  look : ∀ j, j < 4 → D.atKey (.string (nameL j)) .nil = encP (f j)
  size : Maps.size D = cnt4 f

theorem isKey (l : List UInt8) : WideAt.IsKeyLit (.string l) := by
  first | trivial | exact .inr (.inr ⟨_, rfl⟩) | simp [WideAt.IsKeyLit]

theorem key_ne {i j : Nat} (hi : i < 4) (hj : j < 4) (h : i ≠ j) : (Lit.string (nameL i)) ≠ .string (nameL j) := fun e => h (nameL_inj hi hj (Lit.string.inj e))

theorem MapIs.empty : MapIs (.map []) (fun _ => .none) := ⟨tidy_empty, fun j hj => rfl, fun j hj => rfl, rfl⟩

theorem MapIs.put {D : DataW Unit} {f : Nat → Option Nat} (h : MapIs D f) {j : Nat} (hj : j < 4) (b : Nat) : MapIs (D.put (.string (nameL j)) (encP (some b))) (upd f j (some b)) := by
  refine ⟨h.tidy.put (isKey _) _, fun i hi => ?_, fun i hi => ?_, ?_⟩
  · by_cases e : i = j
    · subst e; rw [upd_same, has_put_same h.tidy.isMap (isKey _)]; rfl
    · rw [upd_other _ _ e, has_put_other (key_ne hi hj e), h.has i hi]
  · by_cases e : i = j
    · subst e; rw [upd_same, atKey_put_same h.tidy.isMap (isKey _)]
    · rw [upd_other _ _ e, atKey_put_other (key_ne hi hj e), h.look i hi]
  · rw [size_put h.tidy, h.has j hj, h.size]
    have := cnt4_upd f hj (some b)
    unfold c1 at this
    cases hf : (f j).isSome <;> simp [hf] at this ⊢ <;> omega

theorem MapIs.del {D : DataW Unit} {f : Nat → Option Nat} (h : MapIs D f) {j : Nat} (hj : j < 4) : MapIs (D.del (.string (nameL j))) (upd f j .none) := by
  refine ⟨h.tidy.del _, fun i hi => ?_, fun i hi => ?_, ?_⟩
  · by_cases e : i = j
    · subst e; rw [upd_same, has_del_same]; rfl
    · rw [upd_other _ _ e, has_del_other (key_ne hi hj e), h.has i hi]
  · by_cases e : i = j
    · subst e; rw [upd_same, atKey_del_same]; rfl
    · rw [upd_other _ _ e, atKey_del_other (key_ne hi hj e), h.look i hi]
  · have e := size_del (k := .string (nameL j)) h.tidy
    rw [h.has j hj, h.size] at e
    have := cnt4_upd f hj .none
    unfold c1 at this
    cases hf : (f j).isSome <;> simp [hf] at this e ⊢ <;> omega

/-! ### Worlds -/
theorem cell_block {w : World} {p t i : Nat} {C : Array Value} {fr : Nat × Nat} {v : Value} (G : w.heap[p]? = some (.cells C t fr)) (hi : C[i]? = some v) : w.cell? ⟨p, i, .none⟩ = some v := by
  simp [World.cell?, G, hi]
theorem frozen_block {w : World} {C t i : Nat} {A : Array Value} (h : w.heap[C]? = some (.cells A t (0, 0))) : w.frozen? ⟨C, i, .none⟩ = false := by
  simp [World.frozen?, h]
theorem set_block {w : World} {C t i : Nat} {A : Array Value} {fr : Nat × Nat} {v : Value} (h : w.heap[C]? = some (.cells A t fr)) : (w.setCell ⟨C, i, .none⟩ v).heap[C]? = some (.cells (A.setIfInBounds i v) t fr) := by
  have hlt := (Array.getElem?_eq_some_iff.1 h).1
  have h' : w.heap[C] = .cells A t fr := by simpa [Array.getElem?_eq_getElem hlt] using h
  show (w.heap.modify C _)[C]? = _
  rw [Array.getElem?_eq_getElem (by simpa using hlt), Array.getElem_modify_self, h']
  rfl
theorem alloc_block {w : World} {C : Nat} {o : Obj} {x : Obj} (h : w.heap[C]? = some x) : (w.alloc o).heap[C]? = some x := by
  rw [Below.heap_alloc _ _ _ (Array.getElem?_eq_some_iff.1 h).1]; exact h
theorem new_block (w : World) (o : Obj) : (w.alloc o).heap[w.heap.size]? = some o := heap_alloc_new _ _
theorem lt_block {w : World} {p : Nat} {x : Obj} (h : w.heap[p]? = some x) : p < w.heap.size := (Array.getElem?_eq_some_iff.1 h).1
theorem ne_block {w : World} {p q : Nat} {x y : Obj} (hx : w.heap[p]? = some x) (hy : w.heap[q]? = some y) (h : x ≠ y) : p ≠ q := by
  rintro rfl
  rw [hx] at hy
  exact h (Option.some.inj hy)
theorem add0 (g j : Nat) : ((⟨g, 0, .none⟩ : Addr).add j) = ⟨g, j, .none⟩ := by unfold Addr.add; split <;> simp_all

/-- From w to w' only blocks of X, and new ones, have turned. -/
structure Ch (w w' : World) (X : Nat → Prop) : Prop where
  os : w'.os = w.os
  tape : w'.tape = w.tape
  output : w'.output = w.output
  size : w.heap.size ≤ w'.heap.size
  block : ∀ k, k < w.heap.size → ¬ X k → w'.heap[k]? = w.heap[k]?

theorem Ch.of_gb {w w' : World} {r : Option Nat} (h : w.grownBy w' r) : Ch w w' (fun k => r = some k) := ⟨h.os, h.tape, h.output, h.size, fun k hk hx => h.block k hk (fun e => hx e.symm)⟩
theorem Ch.refl (w : World) (X : Nat → Prop) : Ch w w X := ⟨rfl, rfl, rfl, Nat.le_refl _, fun _ _ _ => rfl⟩
theorem Ch.mono {a b : World} {X Y : Nat → Prop} (h : Ch a b X) (hxy : ∀ k, X k → Y k) : Ch a b Y := ⟨h.os, h.tape, h.output, h.size, fun k hk hn => h.block k hk (fun hx => hn (hxy k hx))⟩
theorem Ch.trans {a b c : World} {X : Nat → Prop} (h1 : Ch a b X) (h2 : Ch b c (fun k => X k ∨ a.heap.size ≤ k)) : Ch a c X :=
  ⟨h2.os.trans h1.os, h2.tape.trans h1.tape, h2.output.trans h1.output, Nat.le_trans h1.size h2.size, fun k hk hn => (h2.block k (Nat.lt_of_lt_of_le hk h1.size) (fun h => h.elim hn (fun h => by omega))).trans (h1.block k hk hn)⟩
theorem Ch.step {a b c : World} {X : Nat → Prop} (h1 : Ch a b X) (h2 : Ch b c X) : Ch a c X := h1.trans (h2.mono fun k hk => .inl hk)
theorem Ch.set {a b : World} {X : Nat → Prop} (h : Ch a b X) (C i : Nat) (v : Value) (hX : X C ∨ a.heap.size ≤ C) : Ch a (b.setCell ⟨C, i, .none⟩ v) X :=
  h.trans ⟨rfl, rfl, rfl, by simp [World.setCell], fun k _ hn => Below.heap_setCell _ _ _ _ (fun e => hn (by have e' : k = C := e; rw [e']; exact hX))⟩
theorem Ch.drew {a b : World} {X : Nat → Prop} (h : Ch a b X) : Ch a b.drew X := ⟨h.os, h.tape, h.output, h.size, h.block⟩
theorem Ch.drewN {a b : World} {X : Nat → Prop} (h : Ch a b X) (n : Nat) : Ch a (b.drewN n) X := ⟨h.os, h.tape, h.output, h.size, h.block⟩
theorem Ch.alloc {a b : World} {X : Nat → Prop} (h : Ch a b X) (o : Obj) : Ch a (b.alloc o) X :=
  h.step ((Ch.of_gb (World.grownBy_alloc b o .none)).mono (fun k hk => by cases hk))
theorem Ch.at {a b : World} {X : Nat → Prop} (h : Ch a b X) {k : Nat} {x : Obj} (hk : a.heap[k]? = some x) (hn : ¬ X k) : b.heap[k]? = some x := (h.block k (lt_block hk) hn).trans hk
theorem Ch.below {w0 a b : World} {X : Nat → Prop} {B : Nat} (hb : Below B w0 a) (h : Ch a b X) (hB : B ≤ a.heap.size) (hX : ∀ k, X k → B ≤ k) : Below B w0 b :=
  hb.trans ⟨h.os, h.tape, h.output, h.size, fun k hk => h.block k (by omega) (fun hx => by have := hX k hx; omega)⟩

theorem ownsMap_eq {H : Type} {w w' : World} {P : Program} {k : TypeId} {R : Value → Option (DataW H × List MemPlace)} {b n : Nat} {D : DataW H} (h : w.ownsMap P k R b n D) (e : w'.heap[b]? = w.heap[b]?) : w'.ownsMap P k R b n D := by
  obtain ⟨es, clock, hb, r⟩ := h
  exact ⟨es, clock, e.trans hb, r⟩
theorem ownsMap_block {H : Type} {w : World} {P : Program} {k : TypeId} {R : Value → Option (DataW H × List MemPlace)} {b n : Nat} {D : DataW H} (h : w.ownsMap P k R b n D) : ∃ es c, w.heap[b]? = some (.map es c) := by
  obtain ⟨es, clock, hb, r⟩ := h
  exact ⟨es, clock, hb⟩
/-- A map of so many entries is a map of at most so many. -/
theorem own4 {w : World} {P : Program} {k : TypeId} {R : Value → Option (DataW Unit × List MemPlace)} {b n m : Nat} {D : DataW Unit} (h : w.ownsMap P k R b n D) (hm : Maps.size D ≤ m) : w.ownsMap P k R b m D := by
  obtain ⟨es, clock, hb, F, hs, rfl⟩ := h
  refine ⟨es, clock, hb, F, ?_, rfl⟩
  rw [size_eq, length_read] at hm
  exact hm

/-! ### The parser -/
def pA (src uv : Value) (mb : Nat) (pos depth : Int) : Array Value := #[src, .int .i64 pos, .slice .none 0 0, .map .none, .map (some mb), uv, .int .i64 depth]
def uC (U : List (Nat × Option Nat)) : List Value := U.flatMap (fun p => [.string (nameB p.1), ptrV p.2])
theorem uC_snoc (U : List (Nat × Option Nat)) (j : Nat) (o : Option Nat) : uC (U ++ [(j, o)]) = uC U ++ [.string (nameB j), ptrV o] := by simp [uC]
theorem uC_length (U : List (Nat × Option Nat)) : (uC U).length = U.length * 2 := by
  induction U with
  | nil => rfl
  | cons p U ih => simp [uC] at ih ⊢; omega

structure S (B pb mb : Nat) (U : List (Nat × Option Nat)) (f : Nat → Option Nat) (src uv : Value) (pos depth : Int) (w : World) : Prop where
  blk : w.heap[pb]? = some (.cells (pA src uv mb pos depth) 29 (0, 0))
  map : ∃ D, w.ownsMap Yba.prog 9 ptrR mb 4 D ∧ MapIs D f
  row : w.ownsRow B 43 2 uv U.length (uC U)
  lo : B ≤ pb ∧ B ≤ mb
  sz : B ≤ w.heap.size

/-- What a change of the parser may touch. -/
def Tch (pb mb : Nat) (uv : Value) : Nat → Prop := fun k => k = pb ∨ k = mb ∨ uv.ownBlock = some k

section
variable {B pb mb : Nat} {U : List (Nat × Option Nat)} {f : Nat → Option Nat} {src uv : Value} {pos depth : Int} {w w' : World}
theorem S.rowBlock (h : S B pb mb U f src uv pos depth w) {g : Nat} (hg : uv.ownBlock = some g) : ∃ cur, w.heap[g]? = some (.cells cur 43 (0, 0)) := by
  rcases h.row.2 with ⟨rfl, -⟩ | ⟨g', cap, cur, rfl, -, hb, -⟩
  · cases hg
  · cases hg; exact ⟨cur, hb⟩
theorem S.notTch (h : S B pb mb U f src uv pos depth w) {q t : Nat} {A : Array Value} {fr : Nat × Nat} (hq : w.heap[q]? = some (.cells A t fr)) (h29 : t ≠ 29) (h43 : t ≠ 43) : ¬ Tch pb mb uv q := by
  rintro (rfl | rfl | hg)
  · rw [h.blk] at hq; injection hq with hq; injection hq with _ e; exact h29 e.symm
  · obtain ⟨D, hm, -⟩ := h.map
    obtain ⟨es, c, hb⟩ := ownsMap_block hm
    rw [hb] at hq; injection hq with hq; cases hq
  · obtain ⟨cur, hb⟩ := h.rowBlock hg
    rw [hb] at hq; injection hq with hq; injection hq with _ e; exact h43 e.symm
theorem S.keep (h : S B pb mb U f src uv pos depth w) (c : Ch w w' (Tch pb mb uv)) {q t : Nat} {A : Array Value} {fr : Nat × Nat} (hq : w.heap[q]? = some (.cells A t fr)) (h29 : t ≠ 29) (h43 : t ≠ 43) : w'.heap[q]? = some (.cells A t fr) :=
  c.at hq (h.notTch hq h29 h43)
theorem S.tch_lo (h : S B pb mb U f src uv pos depth w) : ∀ k, Tch pb mb uv k → B ≤ k := by
  rintro k (rfl | rfl | hg)
  · exact h.lo.1
  · exact h.lo.2
  · exact (h.row.lt k hg).1
/-- What turns none of the parser's blocks leaves it. -/
theorem S.ch {X : Nat → Prop} (h : S B pb mb U f src uv pos depth w) (c : Ch w w' X) (hX : ∀ k, X k → ¬ Tch pb mb uv k) : S B pb mb U f src uv pos depth w' := by
  have n1 : ¬ X pb := fun hx => hX pb hx (.inl rfl)
  have n2 : ¬ X mb := fun hx => hX mb hx (.inr (.inl rfl))
  refine ⟨c.at h.blk n1, ?_, ?_, h.lo, Nat.le_trans h.sz c.size⟩
  · obtain ⟨D, hm, hD⟩ := h.map
    obtain ⟨es, cl, hb⟩ := ownsMap_block hm
    exact ⟨D, ownsMap_eq hm ((c.at hb n2).trans hb.symm), hD⟩
  · refine ⟨h.row.1, ?_⟩
    rcases h.row.2 with r | ⟨g, cap, cur, rfl, h0, hg, r⟩
    · exact .inl r
    · exact .inr ⟨g, cap, cur, rfl, h0, c.at hg (fun hx => hX g hx (.inr (.inr rfl))), r⟩
theorem S.alloc (h : S B pb mb U f src uv pos depth w) (o : Obj) : S B pb mb U f src uv pos depth (w.alloc o) :=
  h.ch ((Ch.refl w (fun _ => False)).alloc o) (fun k hk => hk.elim)
theorem S.drewN (h : S B pb mb U f src uv pos depth w) (n : Nat) : S B pb mb U f src uv pos depth (w.drewN n) :=
  h.ch ((Ch.refl w (fun _ => False)).drewN n) (fun k hk => hk.elim)
end

end Go.Proofs.Ybulkbgos
