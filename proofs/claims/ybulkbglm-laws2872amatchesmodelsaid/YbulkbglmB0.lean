/-
  LawS2872AMatchesModel: what follows the loops that lay the state: plain laws.
-/
import Derived.Test.YbulkbglmA8
namespace Go.Proofs.Ybulkbglm
open Go Go.RowKit Go.Maps Go.WideMaps
set_option linter.unusedSimpArgs false
set_option linter.unusedVariables false

theorem nh_facts {nh n0 n1 : Nat} (h : nh = if n0 = 0 then 0 else n1) : nh ≤ n1 ∧ (0 < nh → nh = n1 ∧ 0 < n0) := by
  split at h <;> omega

theorem gp_lt {pe : List (Nat × Nat)} {n2 nh : Nat} (h : nh = 0 → pe = []) (u x : Nat) (hx : x ∈ gp pe n2 nh u) : x < nh := by
  unfold gp at hx
  obtain ⟨p, hp, rfl⟩ := List.mem_map.mp hx
  by_cases e : nh = 0
  · rw [h e] at hp
    cases hp
  · exact Nat.mod_lt _ (by omega)

theorem pe_length {pe pl : List (Nat × Nat)} {n2 nh : Nat} (h1 : 0 < n2 → 0 < nh → pe = pl) (h2 : n2 = 0 ∨ nh = 0 → pe = []) : pe.length ≤ pl.length := by
  by_cases e : n2 = 0 ∨ nh = 0
  · rw [h2 e]; exact Nat.zero_le _
  · rw [h1 (by omega) (by omega)]; exact Nat.le_refl _

theorem E4.bel {N : Nat} {w wr : World} {dl ul : List (List UInt8)} {hs : List Nat} {G : Nat → List Nat} (h : E4 N w dl hs ul G wr) : Below N w wr := by
  obtain ⟨_, _, _, _, _, _, _, _, _, _, _, _, _, _, _, h⟩ := h
  exact h

theorem E4.orgs {N : Nat} {w wr : World} {dl ul : List (List UInt8)} {hs : List Nat} {G : Nat → List Nat} (h : E4 N w dl hs ul G wr) (hds : ∀ x ∈ dl, x.length ≤ maxLen) (hG : ∀ u, ∀ x ∈ G u, x < hs.length) (hH : ∀ o ∈ hs, o < dl.length) (nd : dl.length ≤ 256) (nh : hs.length ≤ 256) (nu : ul.length ≤ 256) (nG : ∀ u, (G u).length ≤ 1024)
    (us : List UInt8) (hus : us.length ≤ maxLen) :
    Calls Yba.prog 6 #[.pointer (some ⟨N + 20, 0, none⟩), .string ⟨us.toArray⟩] wr fun e w' => ∃ g cap m, e = .returned (.slice (some ⟨g, 0, none⟩) m cap) ∧ (su (XS dl hs ul G us)).length = m ∧ G5 N w g cap (XS dl hs ul G us) w' := by
  obtain ⟨V, L, C, ur, DO, DU, F, c, q, nn, c0, l0, c3, l3, num, bel⟩ := h
  obtain ⟨go, co, v0⟩ := nn 0 (by omega)
  obtain ⟨gh, ch, v3⟩ := nn 3 (by omega)
  rw [l0] at v0
  rw [l3] at v3
  have hss : (ByteArray.mk us.toArray).size ≤ maxLen := by show us.toArray.size ≤ _; simpa using hus
  refine (orgsOf6 q v0 c0 v3 c3 num hds hG hH nd nh nu nG ⟨us.toArray⟩ hss).mono ?_
  rintro e w5 ⟨g, cap, rfl, hrow, hge, hbel⟩
  have e1 : (ByteArray.mk us.toArray).data.toList = us := by simp
  rw [e1] at hrow
  refine ⟨g, cap, _, by rw [e1]; rfl, rfl, hrow, bel.trans (hbel.mono (by have := q.sz; omega)), ?_⟩
  have := q.sz
  have := hbel.size
  omega

theorem hs_lt {zl hs : List Nat} {n0 nh dn : Nat} (h : hs = (zl.take nh).map (· % n0)) (hp : 0 < nh → 0 < n0) (hd : dn = n0) : ∀ o ∈ hs, o < dn := by
  intro o ho
  rw [h] at ho
  obtain ⟨z, hz, rfl⟩ := List.mem_map.mp ho
  have h0 : 0 < nh := by
    rcases Nat.eq_zero_or_pos nh with e | e
    · rw [e] at hz; simp at hz
    · exact e
  rw [hd]
  exact Nat.mod_lt _ (hp h0)

theorem sortuniq7m (a : Option Addr) (n c : Nat) (ss : List (List UInt8)) (m : Nat) (hm : (su ss).length = m) (w : World) (h : Texts w a n ss) (hn : n ≤ 5000) :
    Calls Yba.prog 7 #[.slice a n c] w fun e w' => ∃ (g cap : Nat), e = .returned (.slice (some ⟨g, 0, none⟩) m cap) ∧
      w'.ownsRow 0 9 1 (.slice (some ⟨g, 0, none⟩) m cap) m ((su ss).map encStr) ∧ Below w.heap.size w w' := by
  subst hm
  refine (sortuniq7 a n c ss w h hn).mono ?_
  rintro e w' ⟨g, cap, rfl, h1, _, h2⟩
  exact ⟨g, cap, rfl, h1, h2⟩

theorem G5.cell {N : Nat} {w wx : World} {g cap : Nat} {xs : List (List UInt8)} (h : G5 N w g cap xs wx) {i : Nat} {y : List UInt8} (hy : (su xs)[i]? = some y) : wx.cell? ⟨g, i, none⟩ = some (.string ⟨y.toArray⟩) := by
  have := h.row.cells (g := g) rfl i (encStr y) (by simp [hy])
  rw [add0'] at this
  exact this

theorem G5.drewN {N : Nat} {w wx : World} {g cap : Nat} {xs : List (List UInt8)} (h : G5 N w g cap xs wx) (n : Nat) : G5 N w g cap xs (wx.drewN n) := ⟨h.row, h.bel.trans ⟨rfl, rfl, rfl, Nat.le_refl _, fun _ _ => rfl⟩, h.sz⟩
theorem row_drewN {wx : World} {e n s : Nat} {v : Value} {xs : List Value} (h : wx.ownsRow 0 e s v n xs) (m : Nat) : (wx.drewN m).ownsRow 0 e s v n xs := h
theorem eqb_true {a b : Nat} (h : a = b) : ((a : Int) == (b : Int)) = true := by simp [h]
theorem eqb_false {a b : Nat} (h : ¬ a = b) : ((a : Int) == (b : Int)) = false := by simp; omega
theorem zb_true {a : Nat} (h : ¬ 0 < a) : ((a : Int) == 0) = true := by simp; omega
theorem zb_false {a : Nat} (h : 0 < a) : ((a : Int) == 0) = false := by simp; omega
theorem raw_le {dl : List (List UInt8)} {zl : List Nat} {pl : List (Nat × Nat)} {n0 n2 nh iu m n3 : Nat} (h : pl.length = n3) (g : ¬ 1024 < n3) : (rawL dl zl (pl.take m) n0 n2 nh iu).length ≤ 1024 := by
  have h1 := rawL_length dl zl (pl.take m) n0 n2 nh iu
  rw [List.length_take] at h1
  omega
theorem app_b1 {n : Nat} (h : n ≤ 1024) : n + 1 ≤ maxLen := by unfold maxLen; omega
theorem app_b2 {n : Nat} (h : n ≤ 1024) : (n + 1) * 16 ≤ 140737488355328 := by omega
theorem m9_le {xs : List (List UInt8)} {m9 n : Nat} (h : (su xs).length = m9) (hl : xs.length = n) (hn : n ≤ 5000) : m9 ≤ 5000 := by
  have := su_length xs
  omega

theorem row_cell {w : World} {g cap n : Nat} {ss : List (List UInt8)} (h : w.ownsRow 0 9 1 (.slice (some ⟨g, 0, none⟩) n cap) n (ss.map encStr)) {i : Nat} {y : List UInt8} (hy : ss[i]? = some y) : w.cell? ⟨g, i, none⟩ = some (.string ⟨y.toArray⟩) := by
  have := h.cells (g := g) rfl i (encStr y) (by simp [hy])
  rw [add0'] at this
  exact this

/-- the law's own search -/
def UI (us : List UInt8) (ul : List (List UInt8)) (ui : Int) : Prop := (us ∈ ul ∧ ui = (ix us ul : Nat)) ∨ (us ∉ ul ∧ ui = -1)
theorem not_mem_of {us : List UInt8} {ul : List (List UInt8)} {n : Nat} (hl : ul.length = n) (h : ∀ t y, t < n → ul[t]? = some y → y ≠ us) : us ∉ ul := by
  intro hm
  obtain ⟨e1, _⟩ := ix_get hm
  exact h _ _ (by have := ix_lt hm; omega) e1 rfl

/-- one more pair, of the user -/
theorem raw_yes {dl : List (List UInt8)} {zl : List Nat} {pl : List (Nat × Nat)} {n0 n2 nh ui m pu ph y0 z o : Nat} {d : List UInt8} (hpm : pl[m]? = some (pu, ph)) (hu : pu % n2 = ui) (hy : ph % nh = y0) (hz : zl[y0]? = some z) (ho : z % n0 = o) (hd : dl[o]? = some d) :
    rawL dl zl (pl.take (m + 1)) n0 n2 nh ui = rawL dl zl (pl.take m) n0 n2 nh ui ++ [d] := by
  have e1 : pl.take (m + 1) = pl.take m ++ [(pu, ph)] := by rw [List.take_add_one, hpm]; rfl
  rw [e1, rawL_eq hu, hy]
  have e2 : zl.getD y0 0 = z := by rw [List.getD_eq_getElem?_getD, hz]; rfl
  have e3 : dl.getD o [] = d := by rw [List.getD_eq_getElem?_getD, hd]; rfl
  rw [e2, ho, e3]
theorem raw_other {dl : List (List UInt8)} {zl : List Nat} {pl : List (Nat × Nat)} {n0 n2 nh ui m pu ph u0 : Nat} (hpm : pl[m]? = some (pu, ph)) (hu : pu % n2 = u0) (hne : ¬ u0 = ui) :
    rawL dl zl (pl.take (m + 1)) n0 n2 nh ui = rawL dl zl (pl.take m) n0 n2 nh ui := by
  have e1 : pl.take (m + 1) = pl.take m ++ [(pu, ph)] := by rw [List.take_add_one, hpm]; rfl
  rw [e1, rawL_ne (by rw [hu]; exact hne)]

/-- while the law gathers: the row and the world -/
structure H6 (B : Nat) (wx : World) (ss : List (List UInt8)) (v : Value) (wy : World) : Prop where
  row : wy.ownsRow B 9 1 v ss.length (ss.map encStr)
  bel : Below B wx wy
  sz : B ≤ wy.heap.size
theorem H6.alloc {B : Nat} {wx wy : World} {ss : List (List UInt8)} {v : Value} (h : H6 B wx ss v wy) (o : Obj) : H6 B wx ss v (wy.alloc o) := ⟨h.row.alloc o, h.bel.alloc h.sz o, Nat.le_trans h.sz (by simp)⟩
theorem H6.app {B : Nat} {wx wy w2 : World} {ss ss' : List (List UInt8)} {v v' : Value} {d : List UInt8} (h : H6 B wx ss v wy) (e : ss' = ss ++ [d]) (hown : w2.ownsRow B 9 1 v' (ss.length + 1) (ss.map encStr ++ [.string ⟨d.toArray⟩])) (hg : wy.grownBy w2 v.ownBlock) : H6 B wx ss' v' w2 := by
  subst e
  refine ⟨?_, h.bel.grown hg h.sz (fun k hk => (h.row.lt k hk).1), Nat.le_trans h.sz hg.size⟩
  have e1 : (ss ++ [d]).length = ss.length + 1 := by simp
  have e2 : (ss ++ [d]).map encStr = ss.map encStr ++ [.string ⟨d.toArray⟩] := by simp [encStr]
  rw [e1, e2]
  exact hown
theorem H6.start (wx : World) : H6 wx.heap.size wx [] (.slice none 0 0) wx := ⟨World.ownsRow_nil _ _ _ _, Below.refl _ _, Nat.le_refl _⟩

theorem eqlNil (w : World) (a : Addr) (n c : Nat) : Sem.run Yba.prog (binOp BinOp.eql 22 (.slice (some a) n c) (.slice none 0 0)) w = .ok (.bool false) w := by kernel_rfl

end Go.Proofs.Ybulkbglm
