/-
  LawS2872AMatchesModel: the state at the start; one more text, one more record.
-/
import Derived.Test.YbulkbglmA6
namespace Go.Proofs.Ybulkbglm
open Go Go.RowKit Go.Maps Go.WideMaps
set_option linter.unusedSimpArgs false
set_option linter.unusedVariables false

def V0 (N : Nat) : Nat → Value | 0 => sl0 (N + 2) | 1 => sl0 (N + 3) | 2 => sl0 (N + 6) | 3 => sl0 (N + 7) | _ => sl0 (N + 10)

theorem map_fresh {w : World} {b : Nat} (k : TypeId) (R : Value → Option (DataW Unit × List MemPlace)) (n : Nat) (h : w.heap[b]? = some (.map #[] 0)) : w.ownsMap Yba.prog k R b n (.map []) := by
  obtain ⟨es, clock, hb, F, hs, hD⟩ := World.ownsMap_made (H := Unit) w Yba.prog k R
  have e1 : (w.alloc (.map #[] 0)).heap[w.heap.size]? = some (.map #[] 0) := heap_alloc_last _ _
  rw [e1] at hb
  injection hb with hb
  injection hb with h1 h2
  subst h1 h2
  exact ⟨_, _, h, F, by simp, hD⟩

theorem Q_start {w w1 : World} {N : Nat} (m : NewSt w w1 N) : Q N (V0 N) (fun _ => 0) (fun _ => []) (sl0 (N + 11)) (.map []) (.map []) (fun _ => []) (fun _ => .slice none 0 0) 0 w1 := by
  refine ⟨m.st, fun r hr => ?_, fun r hr g hg => ?_, fun r r' hr hr' hne => ?_, map_fresh _ _ _ m.mO, map_fresh _ _ _ m.mU, ⟨_, map_fresh _ _ _ m.memberOf, isMap_empty, fun u => rfl⟩, fun u => .inl rfl, fun u => World.ownsRow_nil _ _ _ _, fun u g hg => (by cases hg), fun u u' _ => .inl rfl, by rw [m.size]; omega⟩
  · rcases five hr with rfl | rfl | rfl | rfl | rfl
    · exact row_made w1 (N + 2) 9 1 m.oi
    · exact row_made w1 (N + 3) 59 9 m.oR
    · exact row_made w1 (N + 6) 9 1 m.hi
    · exact row_made w1 (N + 7) 64 6 m.hR
    · exact row_made w1 (N + 10) 9 1 m.ui
  · rcases five hr with rfl | rfl | rfl | rfl | rfl <;> (simp [V0, sl0, Value.ownBlock] at hg; omega)
  · right
    rcases five hr with rfl | rfl | rfl | rfl | rfl <;> rcases five hr' with rfl | rfl | rfl | rfl | rfl <;> first | exact absurd rfl hne | (simp [V0, sl0, Value.ownBlock])

/-- every row lies somewhere -/
def NN (V : Nat → Value) (L : Nat → Nat) : Prop := ∀ r, r < 5 → ∃ g cap, V r = .slice (some ⟨g, 0, none⟩) (L r) cap
theorem NN_start (N : Nat) : NN (V0 N) (fun _ => 0) := by
  intro r hr
  rcases five hr with rfl | rfl | rfl | rfl | rfl <;> exact ⟨_, _, rfl⟩
theorem NN.up {V : Nat → Value} {L : Nat → Nat} (h : NN V L) {r g n cap : Nat} : NN (upV V r (.slice (some ⟨g, 0, none⟩) n cap)) (upV L r n) := by
  intro r' hr'
  by_cases e : r' = r
  · subst e; rw [upV_same, upV_same]; exact ⟨_, _, rfl⟩
  · rw [upV_other _ _ e, upV_other _ _ e]; exact h r' hr'

section
variable {N : Nat} {V : Nat → Value} {L : Nat → Nat} {C : Nat → List Value} {ur : Value} {DO DU : DataW Unit} {G : Nat → List Nat} {F : Nat → Value} {c : Nat} {w : World}
/-- a row's block and cell, for the walk -/
theorem Q.at (h : Q N V L C ur DO DU G F c w) {r : Nat} (hr : r < 5) {g n cap : Nat} (hv : V r = .slice (some ⟨g, 0, none⟩) n cap) : w.cell? ⟨N + 20, ci r, none⟩ = some (.slice (some ⟨g, 0, none⟩) n cap) := by
  rw [← hv]
  exact cell_block h.st (stV_get _ _ _ hr)

/-- Behind an append onto row r (the new element in the block o): the state's cell is written. -/
theorem Q.appended (h : Q N V L C ur DO DU G F c w) (hN : NN V L) {r : Nat} (hr : r < 5) {g cap : Nat} (hv : V r = .slice (some ⟨g, 0, none⟩) (L r) cap) {o : Obj} {w2 : World} {b' cap' n' : Nat} {news : List Value}
    (hown : w2.ownsRow 0 (et r) (Go.Proofs.Ybulkbglm.sz r) (.slice (some ⟨b', 0, none⟩) n' cap') n' (C r ++ news)) (hg : (w.alloc o).grownBy w2 (some g)) (hloc : b' = g ∨ b' = (w.alloc o).heap.size) :
    w2.heap[N + 20]? = some (.cells (stV N V ur) 49 (0, 0)) ∧ Q N (upV V r (.slice (some ⟨b', 0, none⟩) n' cap')) (upV L r n') (upV C r (C r ++ news)) ur DO DU G F c (w2.setCell ⟨N + 20, ci r, none⟩ (.slice (some ⟨b', 0, none⟩) n' cap')) ∧ NN (upV V r (.slice (some ⟨b', 0, none⟩) n' cap')) (upV L r n') ∧ Ch w (w2.setCell ⟨N + 20, ci r, none⟩ (.slice (some ⟨b', 0, none⟩) n' cap')) (Qt N) := by
  have h1 := h.alloc o
  have hb : (V r).ownBlock = some g := by rw [hv]; rfl
  obtain ⟨q1, q2⟩ := h1.app hr hown (by rw [hb]; exact hg) (by
    rw [hb]
    rcases hloc with e | e
    · exact .inl (by show some b' = some g; rw [e])
    · exact .inr (by show some b' = some (w.alloc o).heap.size; rw [e]))
  refine ⟨?_, q1, hN.up, (((Ch.refl w (Qt N)).alloc o).trans q2).mono (fun k hk => hk.elim id id)⟩
  rw [hg.block (N + 20) (lt_block h1.st) (by intro e; injection e with e; exact (h1.rowNe hr hb).1 e.symm)]
  exact h1.st
end

end Go.Proofs.Ybulkbglm
