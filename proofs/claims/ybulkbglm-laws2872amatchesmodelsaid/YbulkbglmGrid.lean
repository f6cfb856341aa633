/-
  The plain side: what the tables' maps and the hosts' maps read as.
-/
import Derived.Maps.Views
namespace Go.Proofs.Ybulkbglm
open Go Go.Maps

/-- A table of names: the i-th name at the number i. -/
def numD (ids : Nat → List UInt8) : Nat → DataW Unit
  | 0 => .map []
  | i + 1 => (numD ids i).put (.string (ids i)) (.lit (.int .i32 i))

/-- A host's map: number j is there just if pr j, with what rl j says. -/
def memD (pr : Nat → Bool) (rl : Nat → Int) : Nat → DataW Unit
  | 0 => .map []
  | j + 1 => if pr j then (memD pr rl j).put (.int .i32 j) (.lit (.int .u8 (rl j))) else memD pr rl j

def cnt (pr : Nat → Bool) : Nat → Nat
  | 0 => 0
  | j + 1 => cnt pr j + if pr j then 1 else 0

theorem cnt_le (pr : Nat → Bool) (n : Nat) : cnt pr n ≤ n := by
  induction n with
  | zero => simp [cnt]
  | succ n ih => unfold cnt; split <;> omega

/-- How many members the first x hosts have. -/
def sumC (P : Nat → Nat → Bool) (nu : Nat) : Nat → Nat
  | 0 => 0
  | x + 1 => sumC P nu x + cnt (P x) nu

theorem sumC_le' (P : Nat → Nat → Bool) (nu x : Nat) : sumC P nu x ≤ x * nu := by
  induction x with
  | zero => simp [sumC]
  | succ x ih =>
    have := cnt_le (P x) nu
    unfold sumC
    rw [Nat.succ_mul]
    omega

theorem cnt_true (n : Nat) : cnt (fun _ => true) n = n := by
  induction n with
  | zero => rfl
  | succ n ih => simp [cnt, ih]

theorem keyS (l : List UInt8) : WideAt.IsKeyLit (.string l) := by simp [WideAt.IsKeyLit]
theorem keyI (q : IntKind) (n : Int) : WideAt.IsKeyLit (.int q n) := by simp [WideAt.IsKeyLit]

theorem tidy_numD (ids : Nat → List UInt8) (n : Nat) : Tidy (numD ids n) := by
  induction n with
  | zero => exact tidy_empty
  | succ n ih => exact ih.put (keyS _) _

theorem has_numD (ids : Nat → List UInt8) (inj : ∀ i j, i < 4 → j < 4 → ids i = ids j → i = j) (q : Nat) (hq : q < 4) (n : Nat) (hn : n ≤ 4) : has (numD ids n) (.string (ids q)) = decide (q < n) := by
  induction n with
  | zero => rfl
  | succ n ih =>
    unfold numD
    by_cases h : q = n
    · subst h
      rw [has_put_same (tidy_numD ids _).isMap (keyS _)]
      simp
    · rw [has_put_other (fun e => h (inj q n hq (by omega) (by simpa using e))), ih (by omega)]
      simp; omega

theorem at_numD (ids : Nat → List UInt8) (inj : ∀ i j, i < 4 → j < 4 → ids i = ids j → i = j) (q : Nat) (z : DataW Unit) (n : Nat) (hn : n ≤ 4) (hq : q < n) : (numD ids n).atKey (.string (ids q)) z = .lit (.int .i32 q) := by
  induction n with
  | zero => omega
  | succ n ih =>
    unfold numD
    by_cases h : q = n
    · subst h
      exact atKey_put_same (tidy_numD ids _).isMap (keyS _) _ _
    · rw [atKey_put_other (fun e => h (inj q n (by omega) (by omega) (by simpa using e))), ih (by omega) (by omega)]

theorem size_numD (ids : Nat → List UInt8) (inj : ∀ i j, i < 4 → j < 4 → ids i = ids j → i = j) (n : Nat) (hn : n ≤ 4) : size (numD ids n) = n := by
  induction n with
  | zero => rfl
  | succ n ih =>
    unfold numD
    rw [size_put (tidy_numD ids n), has_numD ids inj n (by omega) n (by omega), ih (by omega)]
    simp

theorem tidy_memD (pr : Nat → Bool) (rl : Nat → Int) (n : Nat) : Tidy (memD pr rl n) := by
  induction n with
  | zero => exact tidy_empty
  | succ n ih =>
    unfold memD
    split
    · exact ih.put (keyI _ _) _
    · exact ih

theorem int_ne {q n : Nat} (h : q ≠ n) : (Lit.int .i32 (q : Int)) ≠ Lit.int .i32 (n : Int) := by
  intro e
  injection e with _ e
  omega

theorem has_memD (pr : Nat → Bool) (rl : Nat → Int) (q n : Nat) : has (memD pr rl n) (.int .i32 q) = (decide (q < n) && pr q) := by
  induction n with
  | zero => simp [memD, has]
  | succ n ih =>
    unfold memD
    by_cases h : q = n
    · subst h
      by_cases hp : pr q = true
      · rw [if_pos hp, has_put_same (tidy_memD pr rl _).isMap (keyI _ _)]
        simp [hp]
      · rw [if_neg hp, ih]
        simp at hp
        simp [hp]
    · have e : decide (q < n + 1) = decide (q < n) := by simp; omega
      rw [e]
      split
      · rw [has_put_other (int_ne h), ih]
      · exact ih

theorem at_memD (pr : Nat → Bool) (rl : Nat → Int) (q : Nat) (z : DataW Unit) (n : Nat) (hq : q < n) (hp : pr q = true) : (memD pr rl n).atKey (.int .i32 q) z = .lit (.int .u8 (rl q)) := by
  induction n with
  | zero => omega
  | succ n ih =>
    unfold memD
    by_cases h : q = n
    · subst h
      rw [if_pos hp]
      exact atKey_put_same (tidy_memD pr rl _).isMap (keyI _ _) _ _
    · split
      · rw [atKey_put_other (int_ne h), ih (by omega)]
      · exact ih (by omega)

theorem size_memD (pr : Nat → Bool) (rl : Nat → Int) (n : Nat) : size (memD pr rl n) = cnt pr n := by
  induction n with
  | zero => rfl
  | succ n ih =>
    unfold memD cnt
    split
    · rw [size_put (tidy_memD pr rl n), has_memD, ih]
      simp
    · omega

/-- What a look-up hands over where the key is not there. -/
theorem at_none {D : DataW Unit} {k : Lit} (h : has D k = false) (z : DataW Unit) : D.atKey k z = z := atKey_of_not_has h z

theorem sumC_le (P : Nat → Nat → Bool) (nu x : Nat) (h : nu < 4 ∧ x < 4) : sumC P nu x ≤ 9 := by
  have h1 := sumC_le' P nu x
  have h2 : x * nu ≤ 3 * 3 := Nat.mul_le_mul (by omega) (by omega)
  omega

end Go.Proofs.Ybulkbglm
