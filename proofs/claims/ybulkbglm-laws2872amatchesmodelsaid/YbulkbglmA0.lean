/-
  The plain side of LawS2872AMatchesModel: insertion into a sorted list without duplicates; the sorted keys of a set.
-/
import Derived.Sort.KeysCollected
namespace Go.Proofs.Ybulkbglm
open Go Go.Maps
set_option linter.unusedVariables false

/-- x laid into a sorted list, once. -/
def insU (x : List UInt8) : List (List UInt8) → List (List UInt8)
  | [] => [x]
  | y :: ys => if y = x then y :: ys else if x < y then x :: y :: ys else y :: insU x ys

def su (ss : List (List UInt8)) : List (List UInt8) := ss.foldl (fun o x => insU x o) []

theorem mem_insU {x y : List UInt8} (o : List (List UInt8)) : y ∈ insU x o ↔ y = x ∨ y ∈ o := by
  induction o with
  | nil => simp [insU]
  | cons z zs ih =>
    unfold insU
    split
    · rename_i h
      subst h
      simp only [List.mem_cons]
      constructor
      · intro h; exact .inr h
      · rintro (h | h)
        · exact .inl h
        · exact h
    · split
      · simp
      · simp only [List.mem_cons, ih]
        constructor
        · rintro (h | h | h)
          · exact .inr (.inl h)
          · exact .inl h
          · exact .inr (.inr h)
        · rintro (h | h | h)
          · exact .inr (.inl h)
          · exact .inl h
          · exact .inr (.inr h)

theorem lt_of_not {x y : List UInt8} (h1 : y ≠ x) (h2 : ¬ x < y) : y < x := by
  rcases Decidable.em (y < x) with h | h
  · exact h
  · exact absurd (List.le_antisymm (show y ≤ x from h2) (show x ≤ y from h)) h1

theorem sorted_insU {x : List UInt8} {o : List (List UInt8)} (h : o.Pairwise (· < ·)) : (insU x o).Pairwise (· < ·) := by
  induction o with
  | nil => simp [insU]
  | cons z zs ih =>
    obtain ⟨h1, h2⟩ := List.pairwise_cons.1 h
    unfold insU
    split
    · exact h
    · rename_i hne
      split
      · rename_i hlt
        refine List.pairwise_cons.2 ⟨fun a ha => ?_, h⟩
        rcases List.mem_cons.1 ha with rfl | ha
        · exact hlt
        · exact List.lt_trans hlt (h1 a ha)
      · rename_i hnl
        refine List.pairwise_cons.2 ⟨fun a ha => ?_, ih h2⟩
        rcases (mem_insU zs).1 ha with rfl | ha
        · exact lt_of_not hne hnl
        · exact h1 a ha

theorem su_snoc (ss : List (List UInt8)) (x : List UInt8) : su (ss ++ [x]) = insU x (su ss) := by simp [su]

theorem su_sorted (ss : List (List UInt8)) : (su ss).Pairwise (· < ·) := by
  have : ∀ (l o : List (List UInt8)), o.Pairwise (· < ·) → (l.foldl (fun o x => insU x o) o).Pairwise (· < ·) := by
    intro l
    induction l with
    | nil => intro o h; exact h
    | cons x xs ih => intro o h; exact ih _ (sorted_insU h)
  exact this ss [] List.Pairwise.nil

theorem mem_su (ss : List (List UInt8)) (y : List UInt8) : y ∈ su ss ↔ y ∈ ss := by
  have : ∀ (l o : List (List UInt8)), y ∈ l.foldl (fun o x => insU x o) o ↔ y ∈ l ∨ y ∈ o := by
    intro l
    induction l with
    | nil => intro o; simp
    | cons x xs ih =>
      intro o
      simp only [List.foldl_cons, ih, mem_insU, List.mem_cons]
      constructor
      · rintro (h | h | h)
        · exact .inl (.inr h)
        · exact .inl (.inl h)
        · exact .inr h
      · rintro ((h | h) | h)
        · exact .inr (.inl h)
        · exact .inl h
        · exact .inr (.inr h)
  simpa [su] using this ss []

theorem lt_irrefl' (x : List UInt8) : ¬ x < x := List.lt_irrefl x

theorem su_nodup (ss : List (List UInt8)) : (su ss).Nodup := by
  refine (su_sorted ss).imp ?_
  intro a b h e
  subst e
  exact lt_irrefl' a h

theorem su_length (ss : List (List UInt8)) : (su ss).length ≤ ss.length := by
  have h1 : ∀ x o, (insU x o).length ≤ o.length + 1 := by
    intro x o
    induction o with
    | nil => simp [insU]
    | cons z zs ih => unfold insU; split <;> (try split) <;> simp <;> omega
  have : ∀ (l o : List (List UInt8)), (l.foldl (fun o x => insU x o) o).length ≤ l.length + o.length := by
    intro l
    induction l with
    | nil => intro o; simp
    | cons x xs ih =>
      intro o
      have := ih (insU x o)
      have := h1 x o
      simp only [List.foldl_cons, List.length_cons]
      omega
  simpa [su] using this ss []

/-- The keys of a set, sorted: the members, sorted, each once. -/
theorem sorted_is {H : Type} {P : Program} {k : TypeId} {R : Value → Option (DataW H × List MemPlace)} {w : World} {b n : Nat} {D : DataW H} (hown : w.ownsMap P k R b n D) (K : Keyed P k) (hk : P.underlying k = some .string)
    {ss ks : List (List UInt8)} (hD : ∀ x, has D (.string x) = true ↔ x ∈ ss) (hP : ks.Perm (strKeys D)) : ks.mergeSort leB = su ss := by
  have hC : Collected D (fun _ => false) (su ss) := ⟨su_nodup ss, fun x => by rw [mem_su, hD]; simp⟩
  have h1 := hC.perm hown K hk (fun _ => rfl)
  rw [mergeSort_of_perm (hP.trans h1.symm)]
  refine List.mergeSort_of_pairwise ((su_sorted ss).imp fun {a c} h => ?_)
  simp only [leB, decide_eq_true_eq]
  exact List.le_of_lt h

end Go.Proofs.Ybulkbglm
