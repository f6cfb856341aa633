/-
  LawS2872CModel (4): the walk.
-/
import Derived.Test.YbulkbglmC0
namespace Go.Proofs.Ybulkbglm
open Go Go.RowKit Go.Maps Go.WideMaps
set_option linter.unusedSimpArgs false
set_option linter.unusedVariables false

/-- The grid's 33 cells. -/
structure Grid (gA : Array Value) (a0 a1 a2 : Nat) (P : Nat → Nat → Bool) (R T : Nat → Nat → Int) (q0 q1 q2 : Nat) : Prop where
  n0 : gA[0]? = some (.int .u8 a0)
  n1 : gA[1]? = some (.int .u8 a1)
  n2 : gA[2]? = some (.int .u8 a2)
  p : ∀ i j, i < 3 → j < 3 → gA[3 + i * 3 + j]? = some (.bool (P i j))
  r : ∀ i j, i < 3 → j < 3 → gA[12 + i * 3 + j]? = some (.int .u8 (R i j))
  t : ∀ i j, i < 3 → j < 3 → gA[21 + i * 3 + j]? = some (.int .u8 (T i j))
  x0 : gA[30]? = some (.int .u8 q0)
  x1 : gA[31]? = some (.int .u8 q1)
  x2 : gA[32]? = some (.int .u8 q2)
  b0 : a0 < 256
  b1 : a1 < 256
  b2 : a2 < 256
  d0 : q0 < 256
  d1 : q1 < 256
  d2 : q2 < 256
  br : ∀ i j, 0 ≤ R i j ∧ R i j < 256
  bt : ∀ i j, 0 ≤ T i j ∧ T i j < 256

def hostA : Array Value := #[.string ⟨#[104, 48]⟩, .string ⟨#[104, 49]⟩, .string ⟨#[104, 50]⟩, .string ⟨#[104, 120]⟩]
def userA : Array Value := #[.string ⟨#[117, 48]⟩, .string ⟨#[117, 49]⟩, .string ⟨#[117, 50]⟩, .string ⟨#[117, 120]⟩]
def permA : Array Value := #[.string ⟨#[112, 48]⟩, .string ⟨#[112, 49]⟩, .string ⟨#[112, 50]⟩, .string ⟨#[112, 120]⟩]

def hostB (i : Nat) : ByteArray := if i = 0 then ⟨#[104, 48]⟩ else if i = 1 then ⟨#[104, 49]⟩ else if i = 2 then ⟨#[104, 50]⟩ else ⟨#[104, 120]⟩
def userB (i : Nat) : ByteArray := if i = 0 then ⟨#[117, 48]⟩ else if i = 1 then ⟨#[117, 49]⟩ else if i = 2 then ⟨#[117, 50]⟩ else ⟨#[117, 120]⟩
def permB (i : Nat) : ByteArray := if i = 0 then ⟨#[112, 48]⟩ else if i = 1 then ⟨#[112, 49]⟩ else if i = 2 then ⟨#[112, 50]⟩ else ⟨#[112, 120]⟩

theorem hostB_is {i : Nat} (h : i < 4) : hostA[i]? = some (.string (hostB i)) ∧ (hostB i).data.toList = hostL i ∧ (hostB i).size ≤ maxLen := by
  rcases four_cases h with rfl | rfl | rfl | rfl <;> exact ⟨rfl, rfl, by decide⟩
theorem userB_is {i : Nat} (h : i < 4) : userA[i]? = some (.string (userB i)) ∧ (userB i).data.toList = userL i ∧ (userB i).size ≤ maxLen := by
  rcases four_cases h with rfl | rfl | rfl | rfl <;> exact ⟨rfl, rfl, by decide⟩
theorem permB_is {i : Nat} (h : i < 4) : permA[i]? = some (.string (permB i)) ∧ (permB i).data.toList = permL i ∧ (permB i).size ≤ maxLen := by
  rcases four_cases h with rfl | rfl | rfl | rfl <;> exact ⟨rfl, rfl, by decide⟩

/-- The state with its six slices. -/
def stN (N : Nat) (hi hR ui uR pi pR : Value) : Array Value :=
  stA (N + 1) (sl0 (N + 2)) (sl0 (N + 3)) (N + 5) hi hR (N + 9) ui uR (N + 13) pi pR (N + 16) (N + 17) (N + 18) (N + 19)

/-- The first loop's world: im names in the map, ii in the row of ids, ir records. -/
structure L1 (w0 : World) (N im ii ir : Nat) (hb hc rb rc : Nat) (xs : List Value) (M G : Nat → Nat) (wr : World) : Prop where
  st : wr.heap[N + 20]? = some (.cells (stN N (.slice (some ⟨hb, 0, none⟩) ii hc) (.slice (some ⟨rb, 0, none⟩) ir rc) (sl0 (N + 10)) (sl0 (N + 11)) (sl0 (N + 14)) (sl0 (N + 15))) 49 (0, 0))
  oH : wr.ownsMap Yba.prog 9 (plainElem Yba.prog 57) (N + 5) im (numD hostL im)
  mU : wr.heap[N + 9]? = some (.map #[] 0)
  mP : wr.heap[N + 13]? = some (.map #[] 0)
  ui : wr.heap[N + 10]? = some (.cells #[] 9 (0, 0))
  pi : wr.heap[N + 14]? = some (.cells #[] 9 (0, 0))
  ids : wr.ownsRow 0 9 1 (.slice (some ⟨hb, 0, none⟩) ii hc) ii xs
  row : wr.ownsRow 0 64 6 (.slice (some ⟨rb, 0, none⟩) ir rc) ir (hostCells M G ir)
  hbl : hb = N + 6 ∨ N + 21 ≤ hb
  rbl : rb = N + 7 ∨ N + 21 ≤ rb
  mg : ∀ t, t < ir → N + 21 ≤ M t ∧ M t < G t ∧ G t < wr.heap.size ∧ ∀ s, s < t → G s < M t
  mm : ∀ t, t < ir → wr.heap[M t]? = some (.map #[] 0) ∧ wr.heap[G t]? = some (.map #[] 0)
  bel : Below N w0 wr
  sz : N + 21 ≤ wr.heap.size

theorem L1_start {w0 w1 : World} {N : Nat} (m : NewSt w0 w1 N) : L1 w0 N 0 0 0 (N + 6) 0 (N + 7) 0 [] id id w1 :=
  ⟨m.st, map_made _ _ _ _ _ m.mH, m.mU, m.mP, m.ui, m.pi, row_made _ _ _ _ m.hi, row_made _ _ _ _ m.hR, .inl rfl, .inl rfl, fun t h => absurd h (by omega), fun t h => absurd h (by omega), m.below, by rw [m.size]; exact Nat.le_refl _⟩

theorem cells_ne_map {A : Array Value} {t : Nat} {fr : Nat × Nat} {es : Array MapEntry} {c : Nat} : Obj.cells A t fr ≠ Obj.map es c := by intro h; cases h
theorem cells_ne {A B : Array Value} {t u : Nat} {fr fs : Nat × Nat} (h : t ≠ u) : Obj.cells A t fr ≠ Obj.cells B u fs := by intro e; injection e with _ e; exact h e

theorem L1.map {w0 wr wx : World} {N i ii ir hb hc rb rc : Nat} {xs : List Value} {M G : Nat → Nat} (h : L1 w0 N i ii ir hb hc rb rc xs M G wr)
    (ho : wx.ownsMap Yba.prog 9 (plainElem Yba.prog 57) (N + 5) (i + 1) (numD hostL (i + 1))) (hg : wr.grownBy wx (some (N + 5))) : L1 w0 N (i + 1) ii ir hb hc rb rc xs M G wx := by
  have c := Ch.of_gb hg
  obtain ⟨cur, h1⟩ := row_block h.ids
  obtain ⟨cur2, h2⟩ := row_block h.row
  obtain ⟨es, ck, h3, _⟩ := h.oH
  have n1 : hb ≠ N + 5 := ne_block h1 h3 cells_ne_map
  have n2 : rb ≠ N + 5 := ne_block h2 h3 cells_ne_map
  have hsz := h.sz
  exact ⟨c.at h.st (by omega), ho, c.at h.mU (by omega), c.at h.mP (by omega), c.at h.ui (by omega), c.at h.pi (by omega), row_ch h.ids c n1, row_ch h.row c n2, h.hbl, h.rbl,
    fun t ht => ⟨(h.mg t ht).1, (h.mg t ht).2.1, by have := (h.mg t ht).2.2.1; have := c.size; omega, (h.mg t ht).2.2.2⟩,
    fun t ht => ⟨c.at (h.mm t ht).1 (by have := (h.mg t ht).1; omega), c.at (h.mm t ht).2 (by have := h.mg t ht; omega)⟩,
    Ch.below h.bel c (by omega) (fun k hk => by omega), by have := c.size; omega⟩

theorem L1.idsStep {w0 wr w1 : World} {N im i ir hb hc rb rc hb' hc' : Nat} {xs ys : List Value} {M G : Nat → Nat} (h : L1 w0 N im i ir hb hc rb rc xs M G wr)
    (c : Ch wr w1 (· = hb)) (ho : w1.ownsRow 0 9 1 (.slice (some ⟨hb', 0, none⟩) (i + 1) hc') (i + 1) ys) (hl : hb' = hb ∨ wr.heap.size ≤ hb') :
    L1 w0 N im (i + 1) ir hb' hc' rb rc ys M G (w1.setCell ⟨N + 20, 4, none⟩ (.slice (some ⟨hb', 0, none⟩) (i + 1) hc')) := by
  obtain ⟨cur, h1⟩ := row_block h.ids
  obtain ⟨cur1, k1⟩ := row_block ho
  obtain ⟨cur2, h2⟩ := row_block h.row
  obtain ⟨es, ck, h3, _⟩ := h.oH
  have hsz := h.sz
  have hbl := h.hbl
  have nS : hb ≠ N + 20 := ne_block h1 h.st (cells_ne (by decide))
  have nR : rb ≠ hb := ne_block h2 h1 (cells_ne (by decide))
  have nM : N + 5 ≠ hb := ne_block h3 h1 (Ne.symm cells_ne_map)
  have st1 := c.at h.st (by omega)
  have nS' : hb' ≠ N + 20 := ne_block k1 st1 (cells_ne (by decide))
  have nR' : rb ≠ N + 20 := ne_block h2 h.st (cells_ne (by decide))
  have c2 : Ch w1 (w1.setCell ⟨N + 20, 4, none⟩ (.slice (some ⟨hb', 0, none⟩) (i + 1) hc')) (· = N + 20) := (Ch.refl w1 _).set _ _ _ rfl
  have cc := c.trans c2
  have nmap : ∀ p, wr.heap[p]? = some (.map #[] 0) → ¬ (p = hb ∨ p = N + 20) := fun p hp => by
    rintro (rfl | rfl)
    · rw [h1] at hp; cases hp
    · rw [h.st] at hp; cases hp
  refine ⟨(set_block st1).trans (by rfl), ownsMap_ch h.oH cc (by omega), cc.at h.mU (nmap _ h.mU), cc.at h.mP (nmap _ h.mP), cc.at h.ui (by omega), cc.at h.pi (by omega), row_ch ho c2 nS', row_ch h.row cc (by omega), by omega, h.rbl, ?_, ?_, ?_, by have := cc.size; omega⟩
  · exact fun t ht => ⟨(h.mg t ht).1, (h.mg t ht).2.1, by have := (h.mg t ht).2.2.1; have := cc.size; omega, (h.mg t ht).2.2.2⟩
  · exact fun t ht => ⟨cc.at (h.mm t ht).1 (nmap _ (h.mm t ht).1), cc.at (h.mm t ht).2 (nmap _ (h.mm t ht).2)⟩
  · exact Ch.below h.bel cc (by omega) (fun k hk => by omega)

theorem L1.recStep {w0 wr w1 : World} {N im ii i hb hc rb rc rb' rc' m1 m2 : Nat} {xs : List Value} {M G : Nat → Nat} (h : L1 w0 N im ii i hb hc rb rc xs M G wr)
    (c : Ch wr w1 (· = rb)) (ho : w1.ownsRow 0 64 6 (.slice (some ⟨rb', 0, none⟩) (i + 1) rc') (i + 1) (hostCells M G i ++ [.int .i32 0, .string ⟨#[]⟩, .int .i32 0, .int .u8 0, .map (some m1), .map (some m2)]))
    (hm1 : w1.heap[m1]? = some (.map #[] 0)) (hm2 : w1.heap[m2]? = some (.map #[] 0)) (l1 : wr.heap.size ≤ m1) (l2 : m1 < m2) (hl : rb' = rb ∨ wr.heap.size ≤ rb') :
    L1 w0 N im ii (i + 1) hb hc rb' rc' xs (fun t => if t = i then m1 else M t) (fun t => if t = i then m2 else G t) (w1.setCell ⟨N + 20, 5, none⟩ (.slice (some ⟨rb', 0, none⟩) (i + 1) rc')) := by
  obtain ⟨cur, h1⟩ := row_block h.ids
  obtain ⟨cur1, k1⟩ := row_block ho
  obtain ⟨cur2, h2⟩ := row_block h.row
  obtain ⟨es, ck, h3, _⟩ := h.oH
  have hsz := h.sz
  have hbl := h.hbl
  have rbl := h.rbl
  have nS : rb ≠ N + 20 := ne_block h2 h.st (cells_ne (by decide))
  have nR : hb ≠ rb := ne_block h1 h2 (cells_ne (by decide))
  have nM : N + 5 ≠ rb := ne_block h3 h2 (Ne.symm cells_ne_map)
  have nU : N + 10 ≠ rb := ne_block h.ui h2 (cells_ne (by decide))
  have nP : N + 14 ≠ rb := ne_block h.pi h2 (cells_ne (by decide))
  have nH : hb ≠ N + 20 := ne_block h1 h.st (cells_ne (by decide))
  have st1 := c.at h.st (by omega)
  have nS' : rb' ≠ N + 20 := ne_block k1 st1 (cells_ne (by decide))
  have c2 : Ch w1 (w1.setCell ⟨N + 20, 5, none⟩ (.slice (some ⟨rb', 0, none⟩) (i + 1) rc')) (· = N + 20) := (Ch.refl w1 _).set _ _ _ rfl
  have cc := c.trans c2
  have nmap : ∀ p, wr.heap[p]? = some (.map #[] 0) → ¬ (p = rb ∨ p = N + 20) := fun p hp => by
    rintro (rfl | rfl)
    · rw [h2] at hp; cases hp
    · rw [h.st] at hp; cases hp
  have s2 := lt_block hm2
  have hcs := c.size
  have hc2 := c2.size
  have ec : hostCells (fun t => if t = i then m1 else M t) (fun t => if t = i then m2 else G t) (i + 1) = hostCells M G i ++ [.int .i32 0, .string ⟨#[]⟩, .int .i32 0, .int .u8 0, .map (some m1), .map (some m2)] := by
    show hostCells _ _ i ++ _ = _
    rw [hostCells_congr i (M' := M) (G' := G) (fun t ht => by simp [show t ≠ i by omega])]
    simp
  refine ⟨(set_block st1).trans (by rfl), ownsMap_ch h.oH cc (by omega), cc.at h.mU (nmap _ h.mU), cc.at h.mP (nmap _ h.mP), cc.at h.ui (by omega), cc.at h.pi (by omega), row_ch h.ids cc (by omega), by rw [ec]; exact row_ch ho c2 nS', h.hbl, by omega, ?_, ?_, ?_, by omega⟩
  · intro t ht
    by_cases e : t = i
    · subst e
      simp only [if_true]
      refine ⟨by omega, l2, by omega, fun s hs => ?_⟩
      rw [if_neg (by omega)]
      have := (h.mg s hs).2.2.1
      omega
    · have := h.mg t (by omega)
      rw [if_neg e, if_neg e]
      refine ⟨this.1, this.2.1, by omega, fun s hs => ?_⟩
      rw [if_neg (by omega)]
      exact this.2.2.2 s hs
  · intro t ht
    by_cases e : t = i
    · subst e
      simp only [if_true]
      have n1 : m1 ≠ N + 20 := ne_block hm1 st1 (Ne.symm cells_ne_map)
      have n2 : m2 ≠ N + 20 := ne_block hm2 st1 (Ne.symm cells_ne_map)
      exact ⟨c2.at hm1 n1, c2.at hm2 n2⟩
    · rw [if_neg e, if_neg e]
      have := h.mm t (by omega)
      exact ⟨cc.at this.1 (nmap _ this.1), cc.at this.2 (nmap _ this.2)⟩
  · exact Ch.below h.bel cc (by omega) (fun k hk => by omega)

theorem st_cells {w : World} {N : Nat} {hi hR ui uR pi pR : Value} (h : w.heap[N + 20]? = some (.cells (stN N hi hR ui uR pi pR) 49 (0, 0))) :
    w.cell? ⟨N + 20, 3, none⟩ = some (.map (some (N + 5))) ∧ w.cell? ⟨N + 20, 4, none⟩ = some hi ∧ w.cell? ⟨N + 20, 5, none⟩ = some hR ∧ w.cell? ⟨N + 20, 6, none⟩ = some (.map (some (N + 9))) ∧ w.cell? ⟨N + 20, 7, none⟩ = some ui ∧ w.cell? ⟨N + 20, 8, none⟩ = some uR ∧
    w.cell? ⟨N + 20, 9, none⟩ = some (.map (some (N + 13))) ∧ w.cell? ⟨N + 20, 10, none⟩ = some pi ∧ w.cell? ⟨N + 20, 11, none⟩ = some pR :=
  ⟨cell_block h rfl, cell_block h rfl, cell_block h rfl, cell_block h rfl, cell_block h rfl, cell_block h rfl, cell_block h rfl, cell_block h rfl, cell_block h rfl⟩

theorem Yba.info9 : (Yba.prog.info? 9).map (fun i => (i.zero, i.size, i.bytes)) = some (some (.string ⟨#[]⟩), 1, 16) := by kernel_rfl
theorem Yba.info64 : (Yba.prog.info? 64).map (fun i => (i.zero, i.size, i.bytes)) = some (some (.agg #[.int .i32 0, .string ⟨#[]⟩, .int .i32 0, .int .u8 0, .map none, .map none]), 6, 48) := by kernel_rfl
theorem Yba.info66 : (Yba.prog.info? 66).map (fun i => (i.zero, i.size, i.bytes)) = some (some (.agg #[]), 0, 0) := by kernel_rfl

end Go.Proofs.Ybulkbglm
