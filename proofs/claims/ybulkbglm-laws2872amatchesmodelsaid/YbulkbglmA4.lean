/-
  LawS2872AMatchesModel: the state's memory as the law's loops build it.
-/
import Derived.Test.YbulkbglmA3
import Derived.Test.YbulkbglmC0
namespace Go.Proofs.Ybulkbglm
open Go Go.RowKit Go.Maps Go.WideMaps
set_option linter.unusedSimpArgs false
set_option linter.unusedVariables false

/-! ### The rows: 0 orgs.ids, 1 orgs.recs, 2 hosts.ids, 3 hosts.recs, 4 users.ids -/
def et : Nat → TypeId | 0 => 9 | 1 => 59 | 2 => 9 | 3 => 64 | _ => 9
def sz : Nat → Nat | 0 => 1 | 1 => 9 | 2 => 1 | 3 => 6 | _ => 1
def ci : Nat → Nat | 0 => 1 | 1 => 2 | 2 => 4 | 3 => 5 | _ => 7

def stV (N : Nat) (V : Nat → Value) (ur : Value) : Array Value := stA (N + 1) (V 0) (V 1) (N + 5) (V 2) (V 3) (N + 9) (V 4) ur (N + 13) (sl0 (N + 14)) (sl0 (N + 15)) (N + 16) (N + 17) (N + 18) (N + 19)

def upV {α : Type} (V : Nat → α) (r : Nat) (v : α) : Nat → α := fun i => if i = r then v else V i
theorem upV_same {α : Type} (V : Nat → α) (r : Nat) (v : α) : upV V r v r = v := if_pos rfl
theorem upV_other {α : Type} (V : Nat → α) {r i : Nat} (v : α) (h : i ≠ r) : upV V r v i = V i := if_neg h

theorem five {r : Nat} (h : r < 5) : r = 0 ∨ r = 1 ∨ r = 2 ∨ r = 3 ∨ r = 4 := by omega
theorem stV_set (N : Nat) (V : Nat → Value) (ur : Value) {r : Nat} (hr : r < 5) (v : Value) : (stV N V ur).setIfInBounds (ci r) v = stV N (upV V r v) ur := by
  rcases five hr with rfl | rfl | rfl | rfl | rfl <;> rfl
theorem stV_get (N : Nat) (V : Nat → Value) (ur : Value) {r : Nat} (hr : r < 5) : (stV N V ur)[ci r]? = some (V r) := by
  rcases five hr with rfl | rfl | rfl | rfl | rfl <;> rfl

/-! ### A slice as the datum of a map's element -/
def slR : Value → Option (DataW Unit × List MemPlace)
  | .slice none 0 0 => some (.nil, [])
  | .slice (some ⟨g, 0, none⟩) n c => some (.agg [.lit (.int .i64 g), .lit (.int .i64 n), .lit (.int .i64 c)], [])
  | _ => none
/-- the slices that the law makes -/
def Sl (v : Value) : Prop := v = .slice none 0 0 ∨ ∃ g n c, v = .slice (some ⟨g, 0, none⟩) n c
def slE : Value → DataW Unit
  | .slice (some ⟨g, 0, none⟩) n c => .agg [.lit (.int .i64 g), .lit (.int .i64 n), .lit (.int .i64 c)]
  | _ => .nil
theorem slR_mk {v : Value} (h : Sl v) : slR v = some (slE v, []) := by
  rcases h with rfl | ⟨g, n, c, rfl⟩ <;> rfl
theorem slR_inv {v v' : Value} {ps : List MemPlace} (h' : Sl v') (h : slR v = some (slE v', ps)) : v = v' := by
  unfold slR at h
  split at h
  · rcases h' with rfl | ⟨g, n, c, rfl⟩
    · rfl
    · simp [slE] at h
  · rcases h' with rfl | ⟨g, n, c, rfl⟩
    · simp [slE] at h
    · simp [slE] at h
      obtain ⟨⟨h1, h2, h3⟩, -⟩ := h
      have e1 := Int.ofNat_inj.1 h1
      have e2 := Int.ofNat_inj.1 h2
      have e3 := Int.ofNat_inj.1 h3
      subst e1 e2 e3
      rfl
  · cases h

/-- what a group's row holds -/
def gC (l : List Nat) : List Value := l.map (fun h : Nat => Value.int .i32 (h : Int))

/-! ### The state -/
structure Q (N : Nat) (V : Nat → Value) (L : Nat → Nat) (C : Nat → List Value) (ur : Value) (DO DU : DataW Unit) (G : Nat → List Nat) (F : Nat → Value) (c : Nat) (w : World) : Prop where
  st : w.heap[N + 20]? = some (.cells (stV N V ur) 49 (0, 0))
  row : ∀ r, r < 5 → w.ownsRow 0 (et r) (sz r) (V r) (L r) (C r)
  lo : ∀ r, r < 5 → ∀ g, (V r).ownBlock = some g → N ≤ g
  dis : ∀ r r', r < 5 → r' < 5 → r ≠ r' → (V r).ownBlock = none ∨ (V r).ownBlock ≠ (V r').ownBlock
  mO : w.ownsMap Yba.prog 9 (plainElem Yba.prog 27) (N + 1) c DO
  mU : w.ownsMap Yba.prog 9 (plainElem Yba.prog 51) (N + 9) c DU
  mM : ∃ D, w.ownsMap Yba.prog 51 slR (N + 17) c D ∧ IsMap D ∧ ∀ u : Nat, D.atKey (.int .i32 (u : Int)) .nil = slE (F u)
  sl : ∀ u, Sl (F u)
  gr : ∀ u, w.ownsRow 0 57 1 (F u) (G u).length (gC (G u))
  gl : ∀ u g, (F u).ownBlock = some g → N ≤ g
  gd : ∀ u u', u ≠ u' → (F u).ownBlock = none ∨ (F u).ownBlock ≠ (F u').ownBlock
  sz : N + 21 ≤ w.heap.size

theorem own_block {w : World} {B e size n : Nat} {v : Value} {xs : List Value} (h : w.ownsRow B e size v n xs) {g : Nat} (hg : v.ownBlock = some g) : ∃ cur, w.heap[g]? = some (.cells cur e (0, 0)) := by
  rcases h.2 with ⟨rfl, -⟩ | ⟨g', cap, cur, rfl, -, hb, -⟩
  · cases hg
  · cases hg; exact ⟨cur, hb⟩

theorem own_ch {w w' : World} {B e size n : Nat} {v : Value} {xs : List Value} {X : Nat → Prop} (h : w.ownsRow B e size v n xs) (c : Ch w w' X) (hX : ∀ g, v.ownBlock = some g → ¬ X g) : w'.ownsRow B e size v n xs := by
  refine ⟨h.1, ?_⟩
  rcases h.2 with r | ⟨g, cap, cur, rfl, h0, hg, r⟩
  · exact .inl r
  · exact .inr ⟨g, cap, cur, rfl, h0, c.at hg (hX g rfl), r⟩

theorem map_block {H : Type} {w : World} {P : Program} {k : TypeId} {R : Value → Option (DataW H × List MemPlace)} {b n : Nat} {D : DataW H} (h : w.ownsMap P k R b n D) : ∃ es c, w.heap[b]? = some (.map es c) := by
  obtain ⟨es, clock, hb, r⟩ := h
  exact ⟨es, clock, hb⟩

section
variable {N : Nat} {V : Nat → Value} {L : Nat → Nat} {C : Nat → List Value} {ur : Value} {DO DU : DataW Unit} {G : Nat → List Nat} {F : Nat → Value} {c : Nat} {w w' w2 : World}

theorem Q.ch {X : Nat → Prop} (h : Q N V L C ur DO DU G F c w) (k : Ch w w' X) (x1 : ¬ X (N + 20)) (x2 : ¬ X (N + 1)) (x3 : ¬ X (N + 9)) (x4 : ¬ X (N + 17)) (xr : ∀ r, r < 5 → ∀ g, (V r).ownBlock = some g → ¬ X g) (xg : ∀ u g, (F u).ownBlock = some g → ¬ X g) : Q N V L C ur DO DU G F c w' := by
  obtain ⟨D, hD, hI, hA⟩ := h.mM
  exact ⟨k.at h.st x1, fun r hr => own_ch (h.row r hr) k (xr r hr), h.lo, h.dis, ownsMap_ch h.mO k x2, ownsMap_ch h.mU k x3, ⟨D, ownsMap_ch hD k x4, hI, hA⟩, h.sl, fun u => own_ch (h.gr u) k (xg u), h.gl, h.gd, Nat.le_trans h.sz k.size⟩

theorem Q.same (h : Q N V L C ur DO DU G F c w) (k : Ch w w' (fun _ => False)) : Q N V L C ur DO DU G F c w' :=
  h.ch k id id id id (fun _ _ _ _ => id) (fun _ _ _ => id)
theorem Q.alloc (h : Q N V L C ur DO DU G F c w) (o : Obj) : Q N V L C ur DO DU G F c (w.alloc o) := h.same ((Ch.refl w _).alloc o)
theorem Q.drew (h : Q N V L C ur DO DU G F c w) : Q N V L C ur DO DU G F c w.drew := h.same (Ch.refl w _).drew

theorem et_ne {r : Nat} (hr : r < 5) : et r ≠ 49 ∧ et r ≠ 57 := by
  rcases five hr with rfl | rfl | rfl | rfl | rfl <;> exact ⟨by decide, by decide⟩

/-- a row's block is none of the others' -/
theorem Q.rowNe (h : Q N V L C ur DO DU G F c w) {r : Nat} (hr : r < 5) {g : Nat} (hg : (V r).ownBlock = some g) : g ≠ N + 20 ∧ g ≠ N + 1 ∧ g ≠ N + 9 ∧ g ≠ N + 17 ∧ (∀ u, (F u).ownBlock ≠ some g) ∧ g < w.heap.size := by
  obtain ⟨cur, hb⟩ := own_block (h.row r hr) hg
  obtain ⟨D, hD, hI, hA⟩ := h.mM
  obtain ⟨_, _, b1⟩ := map_block h.mO
  obtain ⟨_, _, b2⟩ := map_block h.mU
  obtain ⟨_, _, b3⟩ := map_block hD
  refine ⟨ne_block hb h.st (fun e => (et_ne hr).1 (by injection e)), ne_block hb b1 (by intro e; cases e), ne_block hb b2 (by intro e; cases e), ne_block hb b3 (by intro e; cases e), fun u hu => ?_, lt_block hb⟩
  obtain ⟨cur', hb'⟩ := own_block (h.gr u) hu
  rw [hb] at hb'
  injection hb' with e
  injection e with _ e
  exact (et_ne hr).2 e
theorem Q.grpNe (h : Q N V L C ur DO DU G F c w) {u : Nat} {g : Nat} (hg : (F u).ownBlock = some g) : g ≠ N + 20 ∧ g ≠ N + 1 ∧ g ≠ N + 9 ∧ g ≠ N + 17 ∧ (∀ r, r < 5 → (V r).ownBlock ≠ some g) ∧ g < w.heap.size := by
  obtain ⟨cur, hb⟩ := own_block (h.gr u) hg
  obtain ⟨D, hD, hI, hA⟩ := h.mM
  obtain ⟨_, _, b1⟩ := map_block h.mO
  obtain ⟨_, _, b2⟩ := map_block h.mU
  obtain ⟨_, _, b3⟩ := map_block hD
  exact ⟨ne_block hb h.st (by intro e; injection e with _ e; exact absurd e (by decide)), ne_block hb b1 (by intro e; cases e), ne_block hb b2 (by intro e; cases e), ne_block hb b3 (by intro e; cases e), fun r hr hu => (h.rowNe hr hu).2.2.2.2.1 u hg, lt_block hb⟩

/-- What the state's steps may touch. -/
def Qt (N : Nat) : Nat → Prop := fun k => N ≤ k

/-- 'st.ids = append(st.ids, x)': one row, one cell of the state. -/
theorem Q.app (h : Q N V L C ur DO DU G F c w) {r : Nat} (hr : r < 5) {v' : Value} {news : List Value} {n' : Nat} (hown : w2.ownsRow 0 (et r) (Go.Proofs.Ybulkbglm.sz r) v' n' (C r ++ news)) (hg : w.grownBy w2 (V r).ownBlock) (hloc : v'.ownBlock = (V r).ownBlock ∨ v'.ownBlock = some w.heap.size) :
    Q N (upV V r v') (upV L r n') (upV C r (C r ++ news)) ur DO DU G F c (w2.setCell ⟨N + 20, ci r, none⟩ v') ∧ Ch w (w2.setCell ⟨N + 20, ci r, none⟩ v') (Qt N) := by
  have k1 : Ch w w2 (fun k => (V r).ownBlock = some k) := ⟨hg.os, hg.tape, hg.output, hg.size, fun k hk hx => hg.block k hk (fun e => hx e.symm)⟩
  have hst2 := k1.at h.st (fun e => (h.rowNe hr e).1 rfl)
  have k2 : Ch w2 (w2.setCell ⟨N + 20, ci r, none⟩ v') (· = N + 20) := (Ch.refl w2 _).set (N + 20) (ci r) v' rfl
  have hsz := h.sz
  have new_ne : ∀ g, v'.ownBlock = some g → (V r).ownBlock = some g ∨ g = w.heap.size := by
    intro g hgg
    rcases hloc with e | e
    · exact .inl (e ▸ hgg)
    · right; rw [e] at hgg; exact (Option.some.inj hgg).symm
  have v20 : ∀ g, v'.ownBlock = some g → g ≠ N + 20 := by
    intro g hgg
    rcases new_ne g hgg with e | e
    · exact (h.rowNe hr e).1
    · omega
  have hq1 : ∀ r', r' < 5 → r' ≠ r → w2.ownsRow 0 (et r') (Go.Proofs.Ybulkbglm.sz r') (V r') (L r') (C r') := fun r' hr' hne => own_ch (h.row r' hr') k1 (fun g hgg hx => by
    rcases h.dis r' r hr' hr hne with e | e
    · rw [e] at hgg; cases hgg
    · exact e (hgg.trans hx.symm))
  obtain ⟨D, hD, hI, hA⟩ := h.mM
  have hM1 := ownsMap_ch h.mO k1 (fun e => (h.rowNe hr e).2.1 rfl)
  have hM2 := ownsMap_ch h.mU k1 (fun e => (h.rowNe hr e).2.2.1 rfl)
  have hM3 := ownsMap_ch hD k1 (fun e => (h.rowNe hr e).2.2.2.1 rfl)
  refine ⟨⟨by rw [set_block hst2, stV_set _ _ _ hr], fun r' hr' => ?_, fun r' hr' g hgg => ?_, fun r1 r2 h1 h2 hne => ?_, ownsMap_ch hM1 k2 (by omega), ownsMap_ch hM2 k2 (by omega), ⟨D, ownsMap_ch hM3 k2 (by omega), hI, hA⟩, h.sl, fun u => ?_, h.gl, h.gd, ?_⟩, ?_⟩
  · by_cases e : r' = r
    · subst e
      rw [upV_same, upV_same, upV_same]
      exact own_ch hown k2 (fun g hgg => v20 g hgg)
    · rw [upV_other _ _ e, upV_other _ _ e, upV_other _ _ e]
      exact own_ch (hq1 r' hr' e) k2 (fun g hgg => (h.rowNe hr' hgg).1)
  · by_cases e : r' = r
    · subst e
      rw [upV_same] at hgg
      rcases new_ne g hgg with e | e
      · exact h.lo r' hr' g e
      · omega
    · rw [upV_other _ _ e] at hgg
      exact h.lo r' hr' g hgg
  · by_cases e1 : r1 = r
    · subst e1
      have e2 : r2 ≠ r1 := fun e => hne e.symm
      rw [upV_same, upV_other _ _ e2]
      cases hb : v'.ownBlock with
      | none => exact .inl rfl
      | some g =>
        right
        intro hc
        rcases new_ne g hb with e | e
        · rcases h.dis r1 r2 h1 h2 hne with e' | e'
          · rw [e'] at e; cases e
          · exact e' (e.trans hc)
        · have := (h.rowNe h2 hc.symm).2.2.2.2.2; omega
    · rw [upV_other _ _ e1]
      by_cases e2 : r2 = r
      · subst e2
        rw [upV_same]
        cases hb : (V r1).ownBlock with
        | none => exact .inl rfl
        | some g =>
          right
          intro hc
          rcases new_ne g hc.symm with e | e
          · rcases h.dis r1 r2 h1 h2 hne with e' | e'
            · rw [e'] at hb; cases hb
            · exact e' (hb.trans e.symm)
          · have := (h.rowNe h1 hb).2.2.2.2.2; omega
      · rw [upV_other _ _ e2]
        exact h.dis r1 r2 h1 h2 hne
  · exact own_ch (own_ch (h.gr u) k1 (fun g hgg hx => (h.rowNe hr hx).2.2.2.2.1 u hgg)) k2 (fun g hgg => (h.grpNe hgg).1)
  · have := k1.size; have := k2.size; omega
  · exact (k1.mono (fun k hk => h.lo r hr k hk)).trans k2 |>.mono (fun k hk => hk.elim id (fun e => by rw [e]; show N ≤ N + 20; omega))
end

end Go.Proofs.Ybulkbglm
