/-
  Small laws on worlds, and a struct of many cells built at the walk's level.
-/
import Derived.Deep.WholeRow
import Derived.WalkKit
namespace Go.Proofs.Ybulkbglm
open Go Go.RowKit
set_option linter.unusedVariables false

section
variable {P : Program}
theorem wpList_build_is {ops : Array Oper} {rest : List Oper} {o : Oper} {a : Act} {w : World} {Q : Exit → Act → World → Prop} (hg : o.guard = none) (t : TypeId) (parts : Array (Nat × Operand)) (ho : o.op = .build t parts)
    (cells : Array Value) (hc : P.built t (parts.map fun (i, x) => (i, a.eval x)).toList = some cells)
    (h : wpList P ops Q rest (a.put o.dst (.agg cells)) w) : wpList P ops Q (o :: rest) a w :=
  wpList_build hg t parts ho (by rw [hc]; rfl) (by rw [hc]; exact h)
end

theorem hid {p : Prop} (h : p) : Hid p := h

theorem cell_block {w : World} {p t i : Nat} {C : Array Value} {fr : Nat × Nat} {v : Value} (G : w.heap[p]? = some (.cells C t fr)) (hi : C[i]? = some v) : w.cell? ⟨p, i, none⟩ = some v := by
  simp [World.cell?, G, hi]

theorem frozen_block {w : World} {C t i : Nat} {A : Array Value} (h : w.heap[C]? = some (.cells A t (0, 0))) : w.frozen? ⟨C, i, none⟩ = false := by
  simp [World.frozen?, h]

theorem set_block {w : World} {C t i : Nat} {A : Array Value} {fr : Nat × Nat} {v : Value} (h : w.heap[C]? = some (.cells A t fr)) : (w.setCell ⟨C, i, none⟩ v).heap[C]? = some (.cells (A.setIfInBounds i v) t fr) := by
  have hlt := (Array.getElem?_eq_some_iff.1 h).1
  have h' : w.heap[C] = .cells A t fr := by simpa [Array.getElem?_eq_getElem hlt] using h
  show (w.heap.modify C _)[C]? = _
  rw [Array.getElem?_eq_getElem (by simpa using hlt), Array.getElem_modify_self, h']
  rfl

theorem alloc_block {w : World} {C : Nat} {o : Obj} {x : Obj} (h : w.heap[C]? = some x) : (w.alloc o).heap[C]? = some x := by
  rw [Below.heap_alloc _ _ _ (Array.getElem?_eq_some_iff.1 h).1]; exact h

section
variable {a b c : World} {row : Option Nat}
theorem gb_refl (a : World) (row : Option Nat) : a.grownBy a row := ⟨rfl, rfl, rfl, Nat.le_refl _, fun _ _ _ => rfl⟩
theorem gb_trans (h1 : a.grownBy b row) (h2 : b.grownBy c row) : a.grownBy c row :=
  ⟨h2.os.trans h1.os, h2.tape.trans h1.tape, h2.output.trans h1.output, Nat.le_trans h1.size h2.size, fun k hk hn => (h2.block k (Nat.lt_of_lt_of_le hk h1.size) hn).trans (h1.block k hk hn)⟩
theorem gb_drew (h : a.grownBy b row) : a.grownBy b.drew row := ⟨h.os, h.tape, h.output, h.size, h.block⟩
theorem gb_undrew (h : a.drew.grownBy b row) : a.grownBy b row := ⟨h.os, h.tape, h.output, h.size, h.block⟩
theorem gb_alloc (o : Obj) (h : a.grownBy b row) : a.grownBy (b.alloc o) row := gb_trans h (World.grownBy_alloc b o row)
theorem gb_set {C : Nat} (i : Nat) (v : Value) (h : a.grownBy b (some C)) : a.grownBy (b.setCell ⟨C, i, none⟩ v) (some C) :=
  gb_trans h ⟨rfl, rfl, rfl, by simp [World.setCell], fun k _ hn => Below.heap_setCell _ _ _ _ (fun e => hn (by rw [e]))⟩
theorem gb_below (h : a.grownBy b none) : Below a.heap.size a b := ⟨h.os, h.tape, h.output, h.size, fun k hk => h.block k hk (by simp)⟩
end

/-- A block below the mark stands. -/
theorem below_block {B p : Nat} {w w' : World} {x : Obj} (hb : Below B w w') (hp : p < B) (h : w.heap[p]? = some x) : w'.heap[p]? = some x := (hb.block p hp).trans h

theorem lt_block {w : World} {p : Nat} {x : Obj} (h : w.heap[p]? = some x) : p < w.heap.size := (Array.getElem?_eq_some_iff.1 h).1

end Go.Proofs.Ybulkbglm
