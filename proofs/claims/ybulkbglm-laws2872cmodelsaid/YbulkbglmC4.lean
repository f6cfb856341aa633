/-
  LawS2872CModel (4): the grid that came in, opened.
-/
import Derived.Test.YbulkbglmC3
import Derived.ProofKit
import Derived.OpenShut
namespace Go.Proofs.Ybulkbglm
open Go Go.ChangeShapes Go.WideShapes
set_option linter.unusedSimpArgs false
set_option linter.unusedVariables false

def boolAt (gA : Array Value) (k : Nat) : Bool :=
  match gA[k]? with
  | some (.bool b) => b
  | _ => false

def byteAt (gA : Array Value) (k : Nat) : Int :=
  match gA[k]? with
  | some (.int .u8 n) => if 0 ≤ n ∧ n < 256 then n else 0
  | _ => 0

theorem byteAt_le (gA : Array Value) (k : Nat) : 0 ≤ byteAt gA k ∧ byteAt gA k < 256 := by
  unfold byteAt
  split
  · split <;> omega
  · omega

theorem at_one {cs : List Value} {k : Nat} {v : Value} (h : (cs.drop k).take 1 = [v]) : cs[k]? = some v := by
  have h1 : ((cs.drop k).take 1)[0]? = some v := by rw [h]; rfl
  simpa [List.getElem?_take, List.getElem?_drop] using h1

theorem drop_take_drop {cs : List Value} {a n b m : Nat} (h : b + m ≤ n) : ((((cs.drop a).take n).drop b).take m) = (cs.drop (a + b)).take m := by
  rw [List.drop_take, List.take_take, List.drop_drop, Nat.min_eq_left (by omega)]

section
variable {H : Type} {enc : TypeId × Value → H} {w : World} {base : Nat} {spare : Nat → Bool} {held : Bool} {fuel : Nat}

theorem open_byte1 {cs : List Value} {k : Nat} {x : DataW H × List MemPlace} (h : DataW.trod enc Yba.prog w base spare held fuel 5 ((cs.drop k).take 1) = some x) : ∃ n : Int, cs[k]? = some (.int .u8 n) ∧ 0 ≤ n ∧ n < 256 := by
  obtain ⟨n, h1, _, hw⟩ := DataW.trod_int Yba.underlying5 h
  have hw' : 0 ≤ n ∧ n < 256 := by
    simp [Lit.wf, IntKind.min, IntKind.max, IntKind.signed, IntKind.bits] at hw
    omega
  exact ⟨n, at_one h1, hw'.1, hw'.2⟩

theorem open_bool1 {cs : List Value} {k : Nat} {x : DataW H × List MemPlace} (h : DataW.trod enc Yba.prog w base spare held fuel 4 ((cs.drop k).take 1) = some x) : ∃ b : Bool, cs[k]? = some (.bool b) := by
  obtain ⟨b, h1, _⟩ := DataW.trod_bool Yba.underlying4 h
  exact ⟨b, at_one h1⟩

theorem cells4 : Yba.prog.cellsOf 4 = 1 := by kernel_rfl
theorem cells5 : Yba.prog.cellsOf 5 = 1 := by kernel_rfl
theorem cells72 : Yba.prog.cellsOf 72 = 3 := by kernel_rfl
theorem cells74 : Yba.prog.cellsOf 74 = 3 := by kernel_rfl
theorem cells73 : Yba.prog.cellsOf 73 = 9 := by kernel_rfl
theorem cells75 : Yba.prog.cellsOf 75 = 9 := by kernel_rfl

theorem get_of_lt {α : Type} {xs : List α} {i n : Nat} (h : xs.length = n) (hi : i < n) : ∃ y, xs[i]? = some y := ⟨xs[i], by simp⟩

theorem open_bools {cs : List Value} {k : Nat} {x : DataW H × List MemPlace} (h : DataW.trod enc Yba.prog w base spare held fuel 73 ((cs.drop k).take 9) = some x) (i j : Nat) (hi : i < 3) (hj : j < 3) : ∃ b : Bool, cs[k + i * 3 + j]? = some (.bool b) := by
  obtain ⟨xs, m, _, _, _, hl, hx⟩ := DataW.trod_array Yba.underlying73 h
  have h1 := hx i hi
  rw [cells72, drop_take_drop (by omega)] at h1
  obtain ⟨y, hy⟩ := get_of_lt hl hi
  rw [hy] at h1
  obtain ⟨xs', m', _, _, _, hl', hx'⟩ := DataW.trod_array Yba.underlying72 h1
  have h2 := hx' j hj
  rw [cells4, drop_take_drop (by omega), Nat.mul_one] at h2
  obtain ⟨y', hy'⟩ := get_of_lt hl' hj
  rw [hy'] at h2
  exact open_bool1 h2

theorem open_bytes9 {cs : List Value} {k : Nat} {x : DataW H × List MemPlace} (h : DataW.trod enc Yba.prog w base spare held fuel 75 ((cs.drop k).take 9) = some x) (i j : Nat) (hi : i < 3) (hj : j < 3) : ∃ n : Int, cs[k + i * 3 + j]? = some (.int .u8 n) ∧ 0 ≤ n ∧ n < 256 := by
  obtain ⟨xs, m, _, _, _, hl, hx⟩ := DataW.trod_array Yba.underlying75 h
  have h1 := hx i hi
  rw [cells74, drop_take_drop (by omega)] at h1
  obtain ⟨y, hy⟩ := get_of_lt hl hi
  rw [hy] at h1
  obtain ⟨xs', m', _, _, _, hl', hx'⟩ := DataW.trod_array Yba.underlying74 h1
  have h2 := hx' j hj
  rw [cells5, drop_take_drop (by omega), Nat.mul_one] at h2
  obtain ⟨y', hy'⟩ := get_of_lt hl' hj
  rw [hy'] at h2
  exact open_byte1 h2

theorem grid_of {gA : Array Value} {x : DataW H × List MemPlace} (h : DataW.trod enc Yba.prog w base spare held fuel 77 gA.toList = some x) :
    ∃ a0 a1 a2 q0 q1 q2 : Nat, Grid gA a0 a1 a2 (fun i j => boolAt gA (3 + i * 3 + j)) (fun i j => byteAt gA (12 + i * 3 + j)) (fun i j => byteAt gA (21 + i * 3 + j)) q0 q1 q2 := by
  obtain ⟨xs, n, _, _, _, hl, hf⟩ := DataW.trod_struct Yba.underlying77 h
  have sm : ∀ i, i < 9 → ∃ y, xs[i]? = some y := fun i hi => get_of_lt hl (by simpa using hi)
  have one : ∀ (i : Nat) (f : Field), (#[{ name := "NH", type := 5, offset := 0, embedded := false, tag := "", pkgPath := "", byteOffset := 0 },
        { name := "NU", type := 5, offset := 1, embedded := false, tag := "", pkgPath := "", byteOffset := 1 },
        { name := "NP", type := 5, offset := 2, embedded := false, tag := "", pkgPath := "", byteOffset := 2 },
        { name := "Present", type := 73, offset := 3, embedded := false, tag := "", pkgPath := "", byteOffset := 3 },
        { name := "Roles", type := 75, offset := 12, embedded := false, tag := "", pkgPath := "", byteOffset := 12 },
        { name := "Grants", type := 75, offset := 21, embedded := false, tag := "", pkgPath := "", byteOffset := 21 },
        { name := "QH", type := 5, offset := 30, embedded := false, tag := "", pkgPath := "", byteOffset := 30 },
        { name := "QU", type := 5, offset := 31, embedded := false, tag := "", pkgPath := "", byteOffset := 31 },
        { name := "QP", type := 5, offset := 32, embedded := false, tag := "", pkgPath := "", byteOffset := 32 }] : Array Field)[i]? = some f → f.type = 5 → i < 9 → ∃ a : Nat, gA.toList[f.offset]? = some (.int .u8 (a : Int)) ∧ a < 256 := by
    intro i f hi ht h9
    have h1 := hf i f hi
    obtain ⟨y, hy⟩ := sm i h9
    rw [ht, cells5, hy] at h1
    obtain ⟨z, hz, z0, z1⟩ := open_byte1 h1
    refine ⟨z.toNat, ?_, by omega⟩
    rw [Int.toNat_of_nonneg z0]
    exact hz
  obtain ⟨a0, e0, b0⟩ := one 0 _ rfl rfl (by omega)
  obtain ⟨a1, e1, b1⟩ := one 1 _ rfl rfl (by omega)
  obtain ⟨a2, e2, b2⟩ := one 2 _ rfl rfl (by omega)
  obtain ⟨q0, f0, d0⟩ := one 6 _ rfl rfl (by omega)
  obtain ⟨q1, f1, d1⟩ := one 7 _ rfl rfl (by omega)
  obtain ⟨q2, f2, d2⟩ := one 8 _ rfl rfl (by omega)
  obtain ⟨y3, hy3⟩ := sm 3 (by omega)
  obtain ⟨y4, hy4⟩ := sm 4 (by omega)
  obtain ⟨y5, hy5⟩ := sm 5 (by omega)
  have g3 : DataW.trod enc Yba.prog w base spare held n 73 ((gA.toList.drop 3).take 9) = some y3 := by rw [← hy3, ← cells73]; exact hf 3 _ rfl
  have g4 : DataW.trod enc Yba.prog w base spare held n 75 ((gA.toList.drop 12).take 9) = some y4 := by rw [← hy4, ← cells75]; exact hf 4 _ rfl
  have g5 : DataW.trod enc Yba.prog w base spare held n 75 ((gA.toList.drop 21).take 9) = some y5 := by rw [← hy5, ← cells75]; exact hf 5 _ rfl
  refine ⟨a0, a1, a2, q0, q1, q2, by simpa using e0, by simpa using e1, by simpa using e2, ?_, ?_, ?_, by simpa using f0, by simpa using f1, by simpa using f2, b0, b1, b2, d0, d1, d2, fun i j => byteAt_le _ _, fun i j => byteAt_le _ _⟩
  · intro i j hi hj
    obtain ⟨b, hb⟩ := open_bools g3 i j hi hj
    have hb' : gA[3 + i * 3 + j]? = some (.bool b) := by simpa using hb
    unfold boolAt
    rw [hb']
  · intro i j hi hj
    obtain ⟨b, hb, h0, h1⟩ := open_bytes9 g4 i j hi hj
    have hb' : gA[12 + i * 3 + j]? = some (.int .u8 b) := by simpa using hb
    unfold byteAt
    rw [hb']
    simp only [if_pos (And.intro h0 h1)]
  · intro i j hi hj
    obtain ⟨b, hb, h0, h1⟩ := open_bytes9 g5 i j hi hj
    have hb' : gA[21 + i * 3 + j]? = some (.int .u8 b) := by simpa using hb
    unfold byteAt
    rw [hb']
    simp only [if_pos (And.intro h0 h1)]
end

end Go.Proofs.Ybulkbglm
