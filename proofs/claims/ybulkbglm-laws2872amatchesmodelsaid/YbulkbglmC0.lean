/-
  LawS2872CModel (4): the worlds of its loops.
-/
import Derived.Test.YbulkbglmAllowed
namespace Go.Proofs.Ybulkbglm
open Go Go.RowKit Go.Maps Go.WideMaps
set_option linter.unusedSimpArgs false
set_option linter.unusedVariables false

/-- From w to w' only blocks of X, and new ones, have turned. -/
structure Ch (w w' : World) (X : Nat → Prop) : Prop where
  os : w'.os = w.os
  tape : w'.tape = w.tape
  output : w'.output = w.output
  size : w.heap.size ≤ w'.heap.size
  block : ∀ k, k < w.heap.size → ¬ X k → w'.heap[k]? = w.heap[k]?

theorem Ch.of_gb {w w' : World} {b : Nat} (h : w.grownBy w' (some b)) : Ch w w' (· = b) := ⟨h.os, h.tape, h.output, h.size, fun k hk hx => h.block k hk (by simpa using hx)⟩
theorem Ch.of_none {w w' : World} (h : w.grownBy w' none) (X : Nat → Prop) : Ch w w' X := ⟨h.os, h.tape, h.output, h.size, fun k hk hx => h.block k hk (by simp)⟩
theorem Ch.refl (w : World) (X : Nat → Prop) : Ch w w X := ⟨rfl, rfl, rfl, Nat.le_refl _, fun _ _ _ => rfl⟩
theorem Ch.trans {a b c : World} {X Y : Nat → Prop} (h1 : Ch a b X) (h2 : Ch b c Y) : Ch a c (fun k => X k ∨ Y k) :=
  ⟨h2.os.trans h1.os, h2.tape.trans h1.tape, h2.output.trans h1.output, Nat.le_trans h1.size h2.size, fun k hk hn => (h2.block k (Nat.lt_of_lt_of_le hk h1.size) (fun h => hn (.inr h))).trans (h1.block k hk (fun h => hn (.inl h)))⟩
theorem Ch.mono {a b : World} {X Y : Nat → Prop} (h : Ch a b X) (hxy : ∀ k, X k → Y k) : Ch a b Y := ⟨h.os, h.tape, h.output, h.size, fun k hk hn => h.block k hk (fun hx => hn (hxy k hx))⟩
theorem Ch.set {a b : World} {X : Nat → Prop} (h : Ch a b X) (C i : Nat) (v : Value) (hX : X C) : Ch a (b.setCell ⟨C, i, none⟩ v) X :=
  (h.trans (Ch.of_gb (gb_set i v (gb_refl b (some C))))).mono (fun k hk => hk.elim id (fun e => e ▸ hX))
theorem Ch.drew {a b : World} {X : Nat → Prop} (h : Ch a b X) : Ch a b.drew X := ⟨h.os, h.tape, h.output, h.size, h.block⟩
theorem Ch.undrew {a b : World} {X : Nat → Prop} (h : Ch a.drew b X) : Ch a b X := ⟨h.os, h.tape, h.output, h.size, h.block⟩
theorem Ch.alloc {a b : World} {X : Nat → Prop} (h : Ch a b X) (o : Obj) : Ch a (b.alloc o) X :=
  (h.trans (Ch.of_none (World.grownBy_alloc b o none) X)).mono (fun k hk => hk.elim id id)
theorem Ch.at {a b : World} {X : Nat → Prop} (h : Ch a b X) {k : Nat} {x : Obj} (hk : a.heap[k]? = some x) (hn : ¬ X k) : b.heap[k]? = some x := (h.block k (lt_block hk) hn).trans hk
theorem Ch.below {w0 a b : World} {X : Nat → Prop} {B : Nat} (hb : Below B w0 a) (h : Ch a b X) (hB : B ≤ a.heap.size) (hX : ∀ k, X k → B ≤ k) : Below B w0 b :=
  hb.trans ⟨h.os, h.tape, h.output, h.size, fun k hk => h.block k (by omega) (fun hx => by have := hX k hx; omega)⟩

theorem ownsMap_eq {H : Type} {w w' : World} {P : Program} {k : TypeId} {R : Value → Option (DataW H × List MemPlace)} {b n : Nat} {D : DataW H} (h : w.ownsMap P k R b n D) (e : w'.heap[b]? = w.heap[b]?) : w'.ownsMap P k R b n D := by
  obtain ⟨es, clock, hb, r⟩ := h
  exact ⟨es, clock, e.trans hb, r⟩

theorem ownsMap_lt {H : Type} {w : World} {P : Program} {k : TypeId} {R : Value → Option (DataW H × List MemPlace)} {b n : Nat} {D : DataW H} (h : w.ownsMap P k R b n D) : b < w.heap.size := by
  obtain ⟨es, clock, hb, r⟩ := h
  exact lt_block hb

theorem ownsMap_ch {H : Type} {w w' : World} {P : Program} {k : TypeId} {R : Value → Option (DataW H × List MemPlace)} {b n : Nat} {D : DataW H} {X : Nat → Prop} (h : w.ownsMap P k R b n D) (c : Ch w w' X) (hn : ¬ X b) : w'.ownsMap P k R b n D :=
  ownsMap_eq h (c.block b (ownsMap_lt h) hn)

theorem row_block {w : World} {e size b n cap : Nat} {xs : List Value} (h : w.ownsRow 0 e size (.slice (some ⟨b, 0, none⟩) n cap) n xs) : ∃ cur, w.heap[b]? = some (.cells cur e (0, 0)) := by
  rcases h.2 with ⟨h, _⟩ | ⟨g, cap', cur, hv, _, hg, _⟩
  · simp at h
  · simp at hv
    obtain ⟨rfl, rfl⟩ := hv
    exact ⟨cur, hg⟩

theorem row_ch {w w' : World} {e size b n cap : Nat} {xs : List Value} {X : Nat → Prop} (h : w.ownsRow 0 e size (.slice (some ⟨b, 0, none⟩) n cap) n xs) (c : Ch w w' X) (hn : ¬ X b) : w'.ownsRow 0 e size (.slice (some ⟨b, 0, none⟩) n cap) n xs := by
  obtain ⟨cur, hb⟩ := row_block h
  have hb' := c.at hb hn
  refine ⟨h.1, ?_⟩
  rcases h.2 with ⟨h, _⟩ | ⟨g, cap', cur', hv, h0, hg, r⟩
  · simp at h
  · have hv' := hv
    simp at hv
    obtain ⟨rfl, rfl⟩ := hv
    exact .inr ⟨b, cap, cur', rfl, h0, by rw [hb', ← hg, hb], r⟩

/-- Two blocks of other kinds are two. -/
theorem ne_block {w : World} {p q : Nat} {x y : Obj} (hx : w.heap[p]? = some x) (hy : w.heap[q]? = some y) (h : x ≠ y) : p ≠ q := by
  rintro rfl
  rw [hx] at hy
  exact h (Option.some.inj hy)

theorem map_made (w : World) (b : Nat) (k e : TypeId) (n : Nat) (h : w.heap[b]? = some (.map #[] 0)) : w.ownsMap (H := Unit) Yba.prog k (plainElem Yba.prog e) b n (.map []) := by
  obtain ⟨es, clock, hb, F, hs, hD⟩ := World.ownsMap_made (H := Unit) w Yba.prog k (plainElem Yba.prog e)
  have e1 : (w.alloc (.map #[] 0)).heap[w.heap.size]? = some (.map #[] 0) := heap_alloc_last _ _
  rw [e1] at hb
  injection hb with hb
  injection hb with h1 h2
  subst h1 h2
  exact ⟨_, _, h, F, by simp, hD⟩

theorem row_made (w : World) (b e size : Nat) (h : w.heap[b]? = some (.cells #[] e (0, 0))) : w.ownsRow 0 e size (.slice (some ⟨b, 0, none⟩) 0 0) 0 [] :=
  ⟨by simp, .inr ⟨b, 0, #[], rfl, Nat.zero_le _, h, Nat.le_refl _, by simp [maxLen], by simp, by simp⟩⟩

def hostL (i : Nat) : List UInt8 := if i = 0 then [104, 48] else if i = 1 then [104, 49] else if i = 2 then [104, 50] else [104, 120]
def userL (i : Nat) : List UInt8 := if i = 0 then [117, 48] else if i = 1 then [117, 49] else if i = 2 then [117, 50] else [117, 120]
def permL (i : Nat) : List UInt8 := if i = 0 then [112, 48] else if i = 1 then [112, 49] else if i = 2 then [112, 50] else [112, 120]

theorem four_cases {i : Nat} (h : i < 4) : i = 0 ∨ i = 1 ∨ i = 2 ∨ i = 3 := by omega

theorem hostL_inj (i j : Nat) (hi : i < 4) (hj : j < 4) (h : hostL i = hostL j) : i = j := by
  rcases four_cases hi with rfl | rfl | rfl | rfl <;> rcases four_cases hj with rfl | rfl | rfl | rfl <;> first | rfl | exact absurd h (by decide)
theorem userL_inj (i j : Nat) (hi : i < 4) (hj : j < 4) (h : userL i = userL j) : i = j := by
  rcases four_cases hi with rfl | rfl | rfl | rfl <;> rcases four_cases hj with rfl | rfl | rfl | rfl <;> first | rfl | exact absurd h (by decide)
theorem permL_inj (i j : Nat) (hi : i < 4) (hj : j < 4) (h : permL i = permL j) : i = j := by
  rcases four_cases hi with rfl | rfl | rfl | rfl <;> rcases four_cases hj with rfl | rfl | rfl | rfl <;> first | rfl | exact absurd h (by decide)

theorem three_at (w : World) (o1 o2 o3 : Obj) : (((w.alloc o1).alloc o2).alloc o3).heap[w.heap.size]? = some o1 ∧ (((w.alloc o1).alloc o2).alloc o3).heap[w.heap.size + 1]? = some o2 := by
  constructor
  · rw [Below.heap_alloc _ _ _ (by simp <;> omega), Below.heap_alloc _ _ _ (by simp <;> omega)]
    exact heap_alloc_last _ _
  · rw [Below.heap_alloc _ _ _ (by simp <;> omega)]
    have := heap_alloc_last (w.alloc o1) o2
    simpa using this

theorem news_at (w : World) (C : Array Value) (t : TypeId) (l : List Value) (g : Nat) (hg : g = w.heap.size) (hC : C.toList = l) :
    ∀ j u, l[j]? = some u → (w.alloc (.cells C t)).cell? ((⟨g, 0, none⟩ : Addr).add j) = some u := by
  intro j u hj
  subst hC
  rw [add0, World.cell?_alloc_at _ _ _ _ hg]
  simpa using hj

section
variable (w : World) (A B C D : Array Value) (j : Nat)
theorem grid_at : ((((w.alloc (.cells A 77)).alloc (.cells B 78)).alloc (.cells C 78)).alloc (.cells D 78)).cell? ⟨w.heap.size, j, none⟩ = A[j]? := by
  rw [World.cell?_alloc_past _ _ _ (by simp <;> omega), World.cell?_alloc_past _ _ _ (by simp <;> omega), World.cell?_alloc_past _ _ _ (by simp), World.cell?_alloc_at _ _ _ _ rfl]
theorem host_at : ((((w.alloc (.cells A 77)).alloc (.cells B 78)).alloc (.cells C 78)).alloc (.cells D 78)).cell? ⟨w.heap.size + 1, j, none⟩ = B[j]? := by
  rw [World.cell?_alloc_past _ _ _ (by simp <;> omega), World.cell?_alloc_past _ _ _ (by simp), World.cell?_alloc_at _ _ _ _ (by simp)]
theorem user_at : ((((w.alloc (.cells A 77)).alloc (.cells B 78)).alloc (.cells C 78)).alloc (.cells D 78)).cell? ⟨w.heap.size + 1 + 1, j, none⟩ = C[j]? := by
  rw [World.cell?_alloc_past _ _ _ (by simp), World.cell?_alloc_at _ _ _ _ (by simp)]
theorem perm_at : ((((w.alloc (.cells A 77)).alloc (.cells B 78)).alloc (.cells C 78)).alloc (.cells D 78)).cell? ⟨w.heap.size + 1 + 1 + 1, j, none⟩ = D[j]? := by
  rw [World.cell?_alloc_at _ _ _ _ (by simp)]
end

end Go.Proofs.Ybulkbglm
