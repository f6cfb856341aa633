/-
  LawS2872AMatchesModel: the state's steps; the users' numbers.
-/
import Derived.Test.YbulkbglmA4
namespace Go.Proofs.Ybulkbglm
open Go Go.RowKit Go.Maps Go.WideMaps
set_option linter.unusedSimpArgs false
set_option linter.unusedVariables false

section
variable {N : Nat} {V : Nat → Value} {L : Nat → Nat} {C : Nat → List Value} {ur : Value} {DO DU : DataW Unit} {G : Nat → List Nat} {F : Nat → Value} {c : Nat} {w w' w2 : World}

theorem Q.mapsNe (h : Q N V L C ur DO DU G F c w) {b : Nat} {es : Array MapEntry} {k : Nat} (hb : w.heap[b]? = some (.map es k)) : b ≠ N + 20 ∧ (∀ r, r < 5 → (V r).ownBlock ≠ some b) ∧ (∀ u, (F u).ownBlock ≠ some b) := by
  refine ⟨ne_block hb h.st (by intro e; cases e), fun r hr hg => ?_, fun u hg => ?_⟩
  · obtain ⟨cur, hb'⟩ := own_block (h.row r hr) hg
    rw [hb] at hb'; cases hb'
  · obtain ⟨cur, hb'⟩ := own_block (h.gr u) hg
    rw [hb] at hb'; cases hb'

theorem Q.putO (h : Q N V L C ur DO DU G F c w) (hc : c < maxLen) {s : ByteArray} (hs : s.size ≤ maxLen) {i : Int} (hi : (Lit.int .i32 i).wf = true) :
    ∃ w', (Instr.mapUpdate 29 (.map (some (N + 1))) (.string s) (.int .i32 i)).run Yba.prog w = .ok () w' ∧ Q N V L C ur (DO.put (.string s.data.toList) (.lit (.int .i32 i))) DU G F (c + 1) w' ∧ Ch w w' (Qt N) := by
  obtain ⟨w', hr, ho, hg⟩ := h.mO.update law9 Yba.underlying29 hc (keyOf_string_mk Yba.underlying9 hs) (plainElem_int Yba.underlying27 hi)
  have k : Ch w w' (· = N + 1) := Ch.of_gb hg
  obtain ⟨_, _, hb⟩ := map_block h.mO
  obtain ⟨x1, x2, x3⟩ := h.mapsNe hb
  obtain ⟨D, hD, hI, hA⟩ := h.mM
  exact ⟨w', hr, ⟨k.at h.st (fun e => x1 e.symm), fun r hr => own_ch (h.row r hr) k (fun g hgg e => x2 r hr (by rw [hgg, e])), h.lo, h.dis, ho, (ownsMap_ch h.mU k (by omega)).mono (Nat.le_succ _), ⟨D, (ownsMap_ch hD k (by omega)).mono (Nat.le_succ _), hI, hA⟩, h.sl, fun u => own_ch (h.gr u) k (fun g hgg e => x3 u (by rw [hgg, e])), h.gl, h.gd, Nat.le_trans h.sz k.size⟩, k.mono (fun q hq => by rw [hq]; show N ≤ N + 1; omega)⟩

theorem Q.putU (h : Q N V L C ur DO DU G F c w) (hc : c < maxLen) {s : ByteArray} (hs : s.size ≤ maxLen) {i : Int} (hi : (Lit.int .i32 i).wf = true) :
    ∃ w', (Instr.mapUpdate 37 (.map (some (N + 9))) (.string s) (.int .i32 i)).run Yba.prog w = .ok () w' ∧ Q N V L C ur DO (DU.put (.string s.data.toList) (.lit (.int .i32 i))) G F (c + 1) w' ∧ Ch w w' (Qt N) := by
  obtain ⟨w', hr, ho, hg⟩ := h.mU.update law9 Yba.underlying37 hc (keyOf_string_mk Yba.underlying9 hs) (plainElem_int Yba.underlying51 hi)
  have k : Ch w w' (· = N + 9) := Ch.of_gb hg
  obtain ⟨_, _, hb⟩ := map_block h.mU
  obtain ⟨x1, x2, x3⟩ := h.mapsNe hb
  obtain ⟨D, hD, hI, hA⟩ := h.mM
  exact ⟨w', hr, ⟨k.at h.st (fun e => x1 e.symm), fun r hr => own_ch (h.row r hr) k (fun g hgg e => x2 r hr (by rw [hgg, e])), h.lo, h.dis, (ownsMap_ch h.mO k (by omega)).mono (Nat.le_succ _), ho, ⟨D, (ownsMap_ch hD k (by omega)).mono (Nat.le_succ _), hI, hA⟩, h.sl, fun u => own_ch (h.gr u) k (fun g hgg e => x3 u (by rw [hgg, e])), h.gl, h.gd, Nat.le_trans h.sz k.size⟩, k.mono (fun q hq => by rw [hq]; show N ≤ N + 9; omega)⟩

theorem Q.mono (h : Q N V L C ur DO DU G F c w) {c' : Nat} (hc : c ≤ c') : Q N V L C ur DO DU G F c' w := by
  obtain ⟨D, hD, hI, hA⟩ := h.mM
  exact ⟨h.st, h.row, h.lo, h.dis, h.mO.mono hc, h.mU.mono hc, ⟨D, hD.mono hc, hI, hA⟩, h.sl, h.gr, h.gl, h.gd, h.sz⟩

/-- the slice of empty records -/
theorem Q.setUr (h : Q N V L C ur DO DU G F c w) (v : Value) : Q N V L C v DO DU G F c (w.setCell ⟨N + 20, 8, none⟩ v) ∧ Ch w (w.setCell ⟨N + 20, 8, none⟩ v) (Qt N) := by
  have k : Ch w (w.setCell ⟨N + 20, 8, none⟩ v) (· = N + 20) := (Ch.refl w _).set (N + 20) 8 v rfl
  obtain ⟨D, hD, hI, hA⟩ := h.mM
  refine ⟨⟨by rw [set_block h.st]; rfl, fun r hr => own_ch (h.row r hr) k (fun g hgg => (h.rowNe hr hgg).1), h.lo, h.dis, ownsMap_ch h.mO k (by omega), ownsMap_ch h.mU k (by omega), ⟨D, ownsMap_ch hD k (by omega), hI, hA⟩, h.sl, fun u => own_ch (h.gr u) k (fun g hgg => (h.grpNe hgg).1), h.gl, h.gd, Nat.le_trans h.sz k.size⟩, k.mono (fun q hq => by rw [hq]; show N ≤ N + 20; omega)⟩

theorem Q.look (h : Q N V L C ur DO DU G F c w) (u : Nat) (hu : (Lit.int .i32 (u : Int)).wf = true) (hz : (zeroValue 56).run Yba.prog w = .ok (.slice none 0 0) w) :
    (Instr.lookup 45 (.map (some (N + 17))) (.int .i32 (u : Int)) false).run Yba.prog w = .ok (F u) w := by
  obtain ⟨D, hD, hI, hA⟩ := h.mM
  obtain ⟨v, ps, hr, hv⟩ := hD.lookup law51 Yba.underlying45 hz (zd := .nil) (zp := []) rfl (keyOf_int_mk Yba.underlying51 hu)
  rw [hA u] at hv
  rw [slR_inv (h.sl u) hv] at hr
  exact hr

/-- 'memberOf[u] = append(memberOf[u], h)' -/
theorem Q.group (h : Q N V L C ur DO DU G F c w) (hc : c < maxLen) (u : Nat) (hu : (Lit.int .i32 (u : Int)).wf = true) (x : Nat) {g n cap : Nat} (hown : w2.ownsRow 0 57 1 (.slice (some ⟨g, 0, none⟩) n cap) (G u ++ [x]).length (gC (G u ++ [x]))) (hg : w.grownBy w2 (F u).ownBlock) (hloc : (F u).ownBlock = some g ∨ g = w.heap.size) :
    ∃ w3, (Instr.mapUpdate 45 (.map (some (N + 17))) (.int .i32 (u : Int)) (.slice (some ⟨g, 0, none⟩) n cap)).run Yba.prog w2 = .ok () w3 ∧ Q N V L C ur DO DU (upV G u (G u ++ [x])) (upV F u (.slice (some ⟨g, 0, none⟩) n cap)) (c + 1) w3 ∧ Ch w w3 (Qt N) := by
  have k1 : Ch w w2 (fun k => (F u).ownBlock = some k) := ⟨hg.os, hg.tape, hg.output, hg.size, fun k hk hx => hg.block k hk (fun e => hx e.symm)⟩
  obtain ⟨D, hD, hI, hA⟩ := h.mM
  have hD2 := ownsMap_ch hD k1 (fun e => (h.grpNe e).2.2.2.1 rfl)
  have hsl : Sl (.slice (some ⟨g, 0, none⟩) n cap) := .inr ⟨g, n, cap, rfl⟩
  obtain ⟨w3, hr, ho, hg3⟩ := hD2.update law51 Yba.underlying45 hc (keyOf_int_mk Yba.underlying51 hu) (slR_mk hsl)
  have k3 : Ch w2 w3 (· = N + 17) := Ch.of_gb hg3
  have hsz := h.sz
  have gne : g ≠ N + 17 := by
    rcases hloc with e | e
    · exact (h.grpNe e).2.2.2.1
    · omega
  obtain ⟨_, _, hb⟩ := map_block hD
  obtain ⟨y1, y2, y3⟩ := h.mapsNe hb
  refine ⟨w3, hr, ⟨k3.at (k1.at h.st (fun e => (h.grpNe e).1 rfl)) (by omega), fun r hr => own_ch (own_ch (h.row r hr) k1 (fun q hq hx => (h.grpNe hx).2.2.2.2.1 r hr hq)) k3 (fun q hq e => y2 r hr (by rw [hq, e])), h.lo, h.dis, (ownsMap_ch (ownsMap_ch h.mO k1 (fun e => (h.grpNe e).2.1 rfl)) k3 (by omega)).mono (Nat.le_succ _), (ownsMap_ch (ownsMap_ch h.mU k1 (fun e => (h.grpNe e).2.2.1 rfl)) k3 (by omega)).mono (Nat.le_succ _), ⟨_, ho, hI.put _ _, fun t => ?_⟩, fun t => ?_, fun t => ?_, fun t q hq => ?_, fun t t' hne => ?_, ?_⟩, ?_⟩
  · by_cases e : t = u
    · subst e
      rw [upV_same, atKey_put_same hI (by first | trivial | simp [WideAt.IsKeyLit])]
    · rw [upV_other _ _ e, atKey_put_other (by intro hh; injection hh with _ hh; exact e (by omega)), hA t]
  · by_cases e : t = u
    · subst e; rw [upV_same]; exact hsl
    · rw [upV_other _ _ e]; exact h.sl t
  · by_cases e : t = u
    · subst e
      rw [upV_same, upV_same]
      exact own_ch hown k3 (fun q hq => by simp [Value.ownBlock] at hq; omega)
    · rw [upV_other _ _ e, upV_other _ _ e]
      refine own_ch (own_ch (h.gr t) k1 (fun q hq hx => ?_)) k3 (fun q hq e' => y3 t (by rw [hq, e']))
      rcases h.gd t u e with e' | e'
      · rw [e'] at hq; cases hq
      · exact e' (hq.trans hx.symm)
  · by_cases e : t = u
    · subst e
      rw [upV_same] at hq
      simp [Value.ownBlock] at hq
      subst hq
      rcases hloc with e' | e'
      · exact h.gl t _ e'
      · omega
    · rw [upV_other _ _ e] at hq; exact h.gl t q hq
  · by_cases e1 : t = u
    · subst e1
      have e2 : t' ≠ t := fun e => hne e.symm
      rw [upV_same, upV_other _ _ e2]
      right
      intro hh
      have hh' : (F t').ownBlock = some g := by simpa [Value.ownBlock] using hh.symm
      rcases hloc with e' | e'
      · rcases h.gd t t' hne with q | q
        · rw [q] at e'; cases e'
        · exact q (e'.trans hh'.symm)
      · have := (h.grpNe hh').2.2.2.2.2; omega
    · rw [upV_other _ _ e1]
      by_cases e2 : t' = u
      · subst e2
        rw [upV_same]
        cases hb : (F t).ownBlock with
        | none => exact .inl rfl
        | some q =>
          right
          intro hh
          have hq : q = g := by simpa [Value.ownBlock] using hh
          subst hq
          rcases hloc with e' | e'
          · rcases h.gd t t' hne with q' | q'
            · rw [q'] at hb; cases hb
            · exact q' (hb.trans e'.symm)
          · have := (h.grpNe hb).2.2.2.2.2; omega
      · rw [upV_other _ _ e2]; exact h.gd t t' hne
  · have := k1.size; have := k3.size; omega
  · exact ((k1.mono (fun k hk => h.gl u k hk)).trans k3).mono (fun k hk => hk.elim id (fun e => by rw [e]; show N ≤ N + 17; omega))
end

/-! ### The users' numbers -/
/-- the first place of x -/
def ix (x : List UInt8) : List (List UInt8) → Nat
  | [] => 0
  | y :: l => if y = x then 0 else ix x l + 1
theorem ix_mem {x : List UInt8} {l : List (List UInt8)} (h : x ∈ l) (m : List (List UInt8)) : ix x (l ++ m) = ix x l := by
  induction l with
  | nil => cases h
  | cons y l ih =>
    show (if y = x then 0 else ix x (l ++ m) + 1) = if y = x then 0 else ix x l + 1
    by_cases e : y = x
    · rw [if_pos e, if_pos e]
    · have : x ∈ l := by
        rcases List.mem_cons.1 h with e' | e'
        · exact absurd e'.symm e
        · exact e'
      rw [if_neg e, if_neg e, ih this]
theorem ix_new {x : List UInt8} {l : List (List UInt8)} (h : x ∉ l) : ix x (l ++ [x]) = l.length := by
  induction l with
  | nil => show (if x = x then 0 else 1) = 0; rw [if_pos rfl]
  | cons y l ih =>
    show (if y = x then 0 else ix x (l ++ [x]) + 1) = _
    rw [if_neg (fun e => h (by rw [e]; exact List.mem_cons_self)), ih (fun e => h (List.mem_cons_of_mem _ e))]
    rfl
theorem ix_lt {x : List UInt8} {l : List (List UInt8)} (h : x ∈ l) : ix x l < l.length := by
  induction l with
  | nil => cases h
  | cons y l ih =>
    show (if y = x then 0 else ix x l + 1) < l.length + 1
    by_cases e : y = x
    · rw [if_pos e]; omega
    · rw [if_neg e]
      rcases List.mem_cons.1 h with e' | e'
      · exact absurd e'.symm e
      · have := ih e'; omega
theorem ix_get {x : List UInt8} {l : List (List UInt8)} (h : x ∈ l) : l[ix x l]? = some x ∧ ∀ j, j < ix x l → l[j]? ≠ some x := by
  induction l with
  | nil => cases h
  | cons y l ih =>
    by_cases e : y = x
    · have e0 : ix x (y :: l) = 0 := if_pos e
      rw [e0]
      exact ⟨by simp [e], fun j hj => by omega⟩
    · have e1 : ix x (y :: l) = ix x l + 1 := if_neg e
      have hm : x ∈ l := by
        rcases List.mem_cons.1 h with e' | e'
        · exact absurd e'.symm e
        · exact e'
      rw [e1]
      refine ⟨by simpa using (ih hm).1, fun j hj => ?_⟩
      cases j with
      | zero => simpa using e
      | succ j => simpa using (ih hm).2 j (by omega)
structure Num (D : DataW Unit) (us : List (List UInt8)) : Prop where
  isMap : IsMap D
  has : ∀ x, Maps.has D (.string x) = decide (x ∈ us)
  at_ : ∀ x, x ∈ us → D.atKey (.string x) (.lit (.int .i32 0)) = .lit (.int .i32 (ix x us : Nat))

theorem Num.empty : Num (.map []) [] := ⟨isMap_empty, fun x => rfl, fun x hx => by cases hx⟩
theorem Num.old {D : DataW Unit} {us : List (List UInt8)} (h : Num D us) {x : List UInt8} (hx : x ∈ us) : Num D (us ++ [x]) := by
  refine ⟨h.isMap, fun y => ?_, fun y hy => ?_⟩
  · rw [h.has y]
    by_cases hy : y ∈ us
    · simp [hy]
    · have : y ≠ x := fun e => hy (e ▸ hx)
      simp [hy, this]
  · have hy' : y ∈ us := by
      rcases List.mem_append.1 hy with e | e
      · exact e
      · rw [List.mem_singleton.1 e]; exact hx
    rw [h.at_ y hy', ix_mem hy']
theorem Num.new {D : DataW Unit} {us : List (List UInt8)} (h : Num D us) {x : List UInt8} (hx : x ∉ us) : Num (D.put (.string x) (.lit (.int .i32 (us.length : Nat)))) (us ++ [x]) := by
  have hk : WideAt.IsKeyLit (.string x) := by first | trivial | simp [WideAt.IsKeyLit]
  refine ⟨h.isMap.put _ _, fun y => ?_, fun y hy => ?_⟩
  · by_cases e : y = x
    · subst e; rw [has_put_same h.isMap hk]; simp
    · rw [has_put_other (by intro hh; injection hh with hh; exact e hh), h.has y]; simp [e]
  · by_cases e : y = x
    · subst e
      rw [atKey_put_same h.isMap hk, ix_new hx]
    · have hy' : y ∈ us := by
        rcases List.mem_append.1 hy with e' | e'
        · exact e'
        · exact absurd (List.mem_singleton.1 e') e
      rw [atKey_put_other (by intro hh; injection hh with hh; exact e hh), h.at_ y hy', ix_mem hy']

end Go.Proofs.Ybulkbglm
