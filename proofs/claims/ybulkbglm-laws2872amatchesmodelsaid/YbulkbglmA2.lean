/-
  zzs2872asortuniq (7): plain pieces and laws for the walk.
-/
import Derived.Test.YbulkbglmA0
import Derived.Test.YbulkbglmC0
namespace Go.Proofs.Ybulkbglm
open Go Go.RowKit Go.Maps
set_option linter.unusedSimpArgs false
set_option linter.unusedVariables false

theorem row_set {w : World} {e g n cap : Nat} {xs : List Value} (h : w.ownsRow 0 e 1 (.slice (some ⟨g, 0, none⟩) n cap) n xs) (i : Nat) (u : Value) (hi : i < n) :
    (w.setCell ⟨g, i, none⟩ u).ownsRow 0 e 1 (.slice (some ⟨g, 0, none⟩) n cap) n (xs.set i u) := by
  rcases h.2 with ⟨h0, _⟩ | ⟨g', cap', cur, hv, hb, hg, hle, hm, hcs, htk⟩
  · cases h0
  · injection hv with h1 h2 h3
    injection h1 with h1
    injection h1 with h1
    subst h1
    subst h3
    refine ⟨by simpa using h.1, .inr ⟨_, _, _, rfl, hb, set_block hg, hle, hm, by simpa using hcs, ?_⟩⟩
    rw [← htk]
    simp only [Array.toList_setIfInBounds]
    rw [List.take_set]

/-- Where x goes: the first place whose text is x or comes behind x. -/
theorem insU_at {x : List UInt8} {o : List (List UInt8)} {p : Nat} (hp : p ≤ o.length) (hb : ∀ i y, i < p → o[i]? = some y → y ≠ x ∧ ¬ x < y) (he : ∀ y, o[p]? = some y → y ≠ x ∧ x < y) : insU x o = o.take p ++ x :: o.drop p := by
  induction o generalizing p with
  | nil => simp at hp; subst hp; rfl
  | cons z zs ih =>
    cases p with
    | zero =>
      obtain ⟨h1, h2⟩ := he z rfl
      unfold insU
      rw [if_neg h1, if_pos h2]
      rfl
    | succ p =>
      obtain ⟨h1, h2⟩ := hb 0 z (by omega) rfl
      unfold insU
      rw [if_neg h1, if_neg h2, ih (by simpa using hp) (fun i y hi hy => hb (i + 1) y (by omega) (by simpa using hy)) (fun y hy => he y (by simpa using hy))]
      rfl

theorem insU_dup {x : List UInt8} {o : List (List UInt8)} {p : Nat} (hb : ∀ i y, i < p → o[i]? = some y → y ≠ x ∧ ¬ x < y) (he : o[p]? = some x) : insU x o = o := by
  induction o generalizing p with
  | nil => simp at he
  | cons z zs ih =>
    cases p with
    | zero =>
      have : z = x := by simpa using he
      unfold insU
      rw [if_pos this]
    | succ p =>
      obtain ⟨h1, h2⟩ := hb 0 z (by omega) rfl
      unfold insU
      rw [if_neg h1, if_neg h2, ih (p := p) (fun i y hi hy => hb (i + 1) y (by omega) (by simpa using hy)) (by simpa using he)]

/-- One step of the shift: the text ahead of the gap moves into it. -/
theorem shift_step {α β : Type} (f : α → β) (o : List α) (q : Nat) (y : α) (u : β) (hq : q < o.length) (hy : o[q]? = some y) :
    ((o.take (q + 1)).map f ++ u :: (o.drop (q + 1)).map f).set (q + 1) (f y) = (o.take q).map f ++ f y :: (o.drop q).map f := by
  have h1 : o.take (q + 1) = o.take q ++ [y] := by rw [List.take_add_one, hy]; rfl
  have h2 : o.drop q = y :: o.drop (q + 1) := by
    have := List.drop_eq_getElem_cons hq
    rw [this]
    congr 1
    have := List.getElem?_eq_getElem hq
    rw [hy] at this
    exact (Option.some.inj this).symm
  have hl : ((o.take q).map f).length = q := by simp; omega
  rw [h1, h2, List.map_append, List.append_assoc, List.set_append_right _ _ (by omega), hl]
  simp

theorem gap_set {α β : Type} (f : α → β) (o : List α) (p : Nat) (x : α) (u : β) (hp : p ≤ o.length) :
    ((o.take p).map f ++ u :: (o.drop p).map f).set p (f x) = (o.take p ++ x :: o.drop p).map f := by
  have hl : ((o.take p).map f).length = p := by simp; omega
  rw [List.set_append_right _ _ (by omega), hl]
  simp

end Go.Proofs.Ybulkbglm
