/-
  LawS2872CModel (4): the worlds of the loops over users and permissions.
-/
import Derived.Test.YbulkbglmC1
import Derived.Deep.Draws
import Derived.Maps.OwnSet
namespace Go.Proofs.Ybulkbglm
open Go Go.RowKit Go.Maps Go.WideMaps
set_option linter.unusedSimpArgs false
set_option linter.unusedVariables false

/-- What the later loops leave alone: the hosts' table, their records, their (still empty) maps. -/
structure Keep (w0 : World) (N nh rb rc : Nat) (M G : Nat → Nat) (wr : World) : Prop where
  oH : wr.ownsMap Yba.prog 9 (plainElem Yba.prog 57) (N + 5) nh (numD hostL nh)
  row : wr.ownsRow 0 64 6 (.slice (some ⟨rb, 0, none⟩) nh rc) nh (hostCells M G nh)
  mg : ∀ t, t < nh → N + 21 ≤ M t ∧ M t < G t ∧ G t < wr.heap.size ∧ ∀ s, s < t → G s < M t
  mm : ∀ t, t < nh → wr.heap[M t]? = some (.map #[] 0) ∧ wr.heap[G t]? = some (.map #[] 0)
  bel : Below N w0 wr
  sz : N + 21 ≤ wr.heap.size

theorem Keep.ch {w0 wr wx : World} {N nh rb rc : Nat} {M G : Nat → Nat} {X : Nat → Prop} (h : Keep w0 N nh rb rc M G wr) (c : Ch wr wx X) (h1 : ¬ X (N + 5)) (h2 : ¬ X rb) (h3 : ∀ k, X k → k < N + 21 ∨ ∃ cur, wr.heap[k]? = some (.cells cur 9 (0, 0))) (h4 : ∀ k, X k → N ≤ k) :
    Keep w0 N nh rb rc M G wx := by
  have hs := c.size
  have hsz := h.sz
  have nm : ∀ p, N + 21 ≤ p → wr.heap[p]? = some (.map #[] 0) → ¬ X p := fun p hp hm hx => by
    rcases h3 p hx with h | ⟨cur, h⟩
    · omega
    · rw [hm] at h; cases h
  refine ⟨ownsMap_ch h.oH c h1, row_ch h.row c h2, fun t ht => ?_, fun t ht => ?_, Ch.below h.bel c (by omega) h4, by omega⟩
  · have := h.mg t ht
    exact ⟨this.1, this.2.1, by omega, this.2.2.2⟩
  · have hg := h.mg t ht
    have hm := h.mm t ht
    exact ⟨c.at hm.1 (nm _ hg.1 hm.1), c.at hm.2 (nm _ (by omega) hm.2)⟩

/-- The users' loop: jm names in the map, ji in the row of ids, jr records. -/
structure L2 (w0 : World) (N nh jm ji jr ub uc cR : Nat) (aR : Addr) (xs : List Value) (hi : Value) (rb rc : Nat) (M G : Nat → Nat) (wr : World) : Prop where
  keep : Keep w0 N nh rb rc M G wr
  st : wr.heap[N + 20]? = some (.cells (stN N hi (.slice (some ⟨rb, 0, none⟩) nh rc) (.slice (some ⟨ub, 0, none⟩) ji uc) (.slice (some aR) jr cR) (sl0 (N + 14)) (sl0 (N + 15))) 49 (0, 0))
  oU : wr.ownsMap Yba.prog 9 (plainElem Yba.prog 51) (N + 9) jm (numD userL jm)
  mP : wr.heap[N + 13]? = some (.map #[] 0)
  pi : wr.heap[N + 14]? = some (.cells #[] 9 (0, 0))
  ids : wr.ownsRow 0 9 1 (.slice (some ⟨ub, 0, none⟩) ji uc) ji xs
  ubl : ub = N + 10 ∨ N + 21 ≤ ub

theorem L2_start {w0 wr : World} {N nh hb hc rb rc : Nat} {xs : List Value} {M G : Nat → Nat} (h : L1 w0 N nh nh nh hb hc rb rc xs M G wr) :
    L2 w0 N nh 0 0 0 (N + 10) 0 0 ⟨N + 11, 0, none⟩ [] (.slice (some ⟨hb, 0, none⟩) nh hc) rb rc M G wr :=
  ⟨⟨h.oH, h.row, h.mg, h.mm, h.bel, h.sz⟩, h.st, map_made _ _ _ _ _ h.mU, h.mP, h.pi, row_made _ _ _ _ h.ui, .inl rfl⟩

section
variable {w0 wr w1 wx : World} {N nh jm ji jr ub uc cR : Nat} {aR : Addr} {xs : List Value} {hi : Value} {rb rc : Nat} {M G : Nat → Nat}

theorem L2.facts (h : L2 w0 N nh jm ji jr ub uc cR aR xs hi rb rc M G wr) : rb ≠ N + 20 ∧ rb ≠ ub ∧ ub ≠ N + 20 ∧ rb ≠ N + 9 ∧ ub ≠ N + 9 ∧ ub ≠ N + 5 ∧ ub ≠ N + 13 ∧ ub ≠ N + 14 ∧ N ≤ ub := by
  obtain ⟨c1, h1⟩ := row_block h.ids
  obtain ⟨c2, h2⟩ := row_block h.keep.row
  obtain ⟨es, ck, h3, _⟩ := h.oU
  have := h.ubl
  exact ⟨ne_block h2 h.st (cells_ne (by decide)), ne_block h2 h1 (cells_ne (by decide)), ne_block h1 h.st (cells_ne (by decide)), ne_block h2 h3 cells_ne_map, ne_block h1 h3 cells_ne_map, by omega, by omega, by omega, by omega⟩

theorem L2.map (h : L2 w0 N nh jm ji jr ub uc cR aR xs hi rb rc M G wr) (ho : wx.ownsMap Yba.prog 9 (plainElem Yba.prog 51) (N + 9) (jm + 1) (numD userL (jm + 1))) (hg : wr.grownBy wx (some (N + 9))) :
    L2 w0 N nh (jm + 1) ji jr ub uc cR aR xs hi rb rc M G wx := by
  obtain ⟨f1, f2, f3, f4, f5, f6, f7, f8, f9⟩ := h.facts
  have c := Ch.of_gb hg
  exact ⟨h.keep.ch c (by omega) f4 (fun k hk => .inl (by omega)) (fun k hk => by omega), c.at h.st (by omega), ho, c.at h.mP (by omega), c.at h.pi (by omega), row_ch h.ids c f5, h.ubl⟩

theorem L2.idsStep (h : L2 w0 N nh jm ji jr ub uc cR aR xs hi rb rc M G wr) {ub' uc' : Nat} {ys : List Value} (c : Ch wr w1 (· = ub)) (ho : w1.ownsRow 0 9 1 (.slice (some ⟨ub', 0, none⟩) (ji + 1) uc') (ji + 1) ys) (hl : ub' = ub ∨ wr.heap.size ≤ ub') :
    L2 w0 N nh jm (ji + 1) jr ub' uc' cR aR ys hi rb rc M G (w1.setCell ⟨N + 20, 7, none⟩ (.slice (some ⟨ub', 0, none⟩) (ji + 1) uc')) := by
  obtain ⟨f1, f2, f3, f4, f5, f6, f7, f8, f9⟩ := h.facts
  obtain ⟨c1, h1⟩ := row_block h.ids
  obtain ⟨c1', k1⟩ := row_block ho
  have hsz := h.keep.sz
  have hbl := h.ubl
  have st1 := c.at h.st (by omega)
  have nS' : ub' ≠ N + 20 := ne_block k1 st1 (cells_ne (by decide))
  have c2 : Ch w1 (w1.setCell ⟨N + 20, 7, none⟩ (.slice (some ⟨ub', 0, none⟩) (ji + 1) uc')) (· = N + 20) := (Ch.refl w1 _).set _ _ _ rfl
  have cc := c.trans c2
  exact ⟨h.keep.ch cc (by omega) (by omega) (fun k hk => hk.elim (fun e => .inr ⟨c1, by rw [e]; exact h1⟩) (fun e => .inl (by omega))) (fun k hk => by omega), (set_block st1).trans (by rfl), ownsMap_ch h.oU cc (by omega), cc.at h.mP (by omega), cc.at h.pi (by omega), row_ch ho c2 nS', by omega⟩

theorem L2.recStep (h : L2 w0 N nh jm ji jr ub uc cR aR xs hi rb rc M G wr) {aR' : Addr} {cR' : Nat} (c : Ch wr w1 (fun _ => False)) :
    L2 w0 N nh jm ji (jr + 1) ub uc cR' aR' xs hi rb rc M G (w1.setCell ⟨N + 20, 8, none⟩ (.slice (some aR') (jr + 1) cR')) := by
  obtain ⟨f1, f2, f3, f4, f5, f6, f7, f8, f9⟩ := h.facts
  have st1 := c.at h.st (fun h => h)
  have c2 : Ch w1 (w1.setCell ⟨N + 20, 8, none⟩ (.slice (some aR') (jr + 1) cR')) (· = N + 20) := (Ch.refl w1 _).set _ _ _ rfl
  have cc : Ch wr (w1.setCell ⟨N + 20, 8, none⟩ (.slice (some aR') (jr + 1) cR')) (· = N + 20) := (c.trans c2).mono (fun k hk => hk.elim False.elim id)
  have hsz := h.keep.sz
  exact ⟨h.keep.ch cc (by omega) (by omega) (fun k hk => .inl (by omega)) (fun k hk => by omega), (set_block st1).trans (by rfl), ownsMap_ch h.oU cc (by omega), cc.at h.mP (by omega), cc.at h.pi (by omega), row_ch h.ids cc (by omega), h.ubl⟩
end

/-- The permissions' loop. -/
structure L3 (w0 : World) (N nh nu km ki kr pb pc cR : Nat) (aR : Addr) (xs : List Value) (hi ui uR : Value) (rb rc : Nat) (M G : Nat → Nat) (wr : World) : Prop where
  keep : Keep w0 N nh rb rc M G wr
  st : wr.heap[N + 20]? = some (.cells (stN N hi (.slice (some ⟨rb, 0, none⟩) nh rc) ui uR (.slice (some ⟨pb, 0, none⟩) ki pc) (.slice (some aR) kr cR)) 49 (0, 0))
  oU : wr.ownsMap Yba.prog 9 (plainElem Yba.prog 51) (N + 9) nu (numD userL nu)
  oP : wr.ownsMap Yba.prog 9 (plainElem Yba.prog 79) (N + 13) km (numD permL km)
  ids : wr.ownsRow 0 9 1 (.slice (some ⟨pb, 0, none⟩) ki pc) ki xs
  pbl : pb = N + 14 ∨ N + 21 ≤ pb

theorem L3_start {w0 wr : World} {N nh nu ub uc cR : Nat} {aR : Addr} {xs : List Value} {hi : Value} {rb rc : Nat} {M G : Nat → Nat} (h : L2 w0 N nh nu nu nu ub uc cR aR xs hi rb rc M G wr) :
    L3 w0 N nh nu 0 0 0 (N + 14) 0 0 ⟨N + 15, 0, none⟩ [] hi (.slice (some ⟨ub, 0, none⟩) nu uc) (.slice (some aR) nu cR) rb rc M G wr :=
  ⟨h.keep, h.st, h.oU, map_made _ _ _ _ _ h.mP, row_made _ _ _ _ h.pi, .inl rfl⟩

section
variable {w0 wr w1 wx : World} {N nh nu km ki kr pb pc cR : Nat} {aR : Addr} {xs : List Value} {hi ui uR : Value} {rb rc : Nat} {M G : Nat → Nat}

theorem L3.facts (h : L3 w0 N nh nu km ki kr pb pc cR aR xs hi ui uR rb rc M G wr) : rb ≠ N + 20 ∧ rb ≠ pb ∧ pb ≠ N + 20 ∧ rb ≠ N + 13 ∧ pb ≠ N + 13 ∧ pb ≠ N + 5 ∧ pb ≠ N + 9 ∧ N ≤ pb := by
  obtain ⟨c1, h1⟩ := row_block h.ids
  obtain ⟨c2, h2⟩ := row_block h.keep.row
  obtain ⟨es, ck, h3, _⟩ := h.oP
  have := h.pbl
  exact ⟨ne_block h2 h.st (cells_ne (by decide)), ne_block h2 h1 (cells_ne (by decide)), ne_block h1 h.st (cells_ne (by decide)), ne_block h2 h3 cells_ne_map, ne_block h1 h3 cells_ne_map, by omega, by omega, by omega⟩

theorem L3.map (h : L3 w0 N nh nu km ki kr pb pc cR aR xs hi ui uR rb rc M G wr) (ho : wx.ownsMap Yba.prog 9 (plainElem Yba.prog 79) (N + 13) (km + 1) (numD permL (km + 1))) (hg : wr.grownBy wx (some (N + 13))) :
    L3 w0 N nh nu (km + 1) ki kr pb pc cR aR xs hi ui uR rb rc M G wx := by
  obtain ⟨f1, f2, f3, f4, f5, f6, f7, f9⟩ := h.facts
  have c := Ch.of_gb hg
  exact ⟨h.keep.ch c (by omega) f4 (fun k hk => .inl (by omega)) (fun k hk => by omega), c.at h.st (by omega), ownsMap_ch h.oU c (by omega), ho, row_ch h.ids c f5, h.pbl⟩

theorem L3.idsStep (h : L3 w0 N nh nu km ki kr pb pc cR aR xs hi ui uR rb rc M G wr) {pb' pc' : Nat} {ys : List Value} (c : Ch wr w1 (· = pb)) (ho : w1.ownsRow 0 9 1 (.slice (some ⟨pb', 0, none⟩) (ki + 1) pc') (ki + 1) ys) (hl : pb' = pb ∨ wr.heap.size ≤ pb') :
    L3 w0 N nh nu km (ki + 1) kr pb' pc' cR aR ys hi ui uR rb rc M G (w1.setCell ⟨N + 20, 10, none⟩ (.slice (some ⟨pb', 0, none⟩) (ki + 1) pc')) := by
  obtain ⟨f1, f2, f3, f4, f5, f6, f7, f9⟩ := h.facts
  obtain ⟨c1, h1⟩ := row_block h.ids
  obtain ⟨c1', k1⟩ := row_block ho
  have hsz := h.keep.sz
  have hbl := h.pbl
  have st1 := c.at h.st (by omega)
  have nS' : pb' ≠ N + 20 := ne_block k1 st1 (cells_ne (by decide))
  have c2 : Ch w1 (w1.setCell ⟨N + 20, 10, none⟩ (.slice (some ⟨pb', 0, none⟩) (ki + 1) pc')) (· = N + 20) := (Ch.refl w1 _).set _ _ _ rfl
  have cc := c.trans c2
  exact ⟨h.keep.ch cc (by omega) (by omega) (fun k hk => hk.elim (fun e => .inr ⟨c1, by rw [e]; exact h1⟩) (fun e => .inl (by omega))) (fun k hk => by omega), (set_block st1).trans (by rfl), ownsMap_ch h.oU cc (by omega), ownsMap_ch h.oP cc (by omega), row_ch ho c2 nS', by omega⟩

theorem L3.recStep (h : L3 w0 N nh nu km ki kr pb pc cR aR xs hi ui uR rb rc M G wr) {aR' : Addr} {cR' : Nat} (c : Ch wr w1 (fun _ => False)) :
    L3 w0 N nh nu km ki (kr + 1) pb pc cR' aR' xs hi ui uR rb rc M G (w1.setCell ⟨N + 20, 11, none⟩ (.slice (some aR') (kr + 1) cR')) := by
  obtain ⟨f1, f2, f3, f4, f5, f6, f7, f9⟩ := h.facts
  have st1 := c.at h.st (fun h => h)
  have c2 : Ch w1 (w1.setCell ⟨N + 20, 11, none⟩ (.slice (some aR') (kr + 1) cR')) (· = N + 20) := (Ch.refl w1 _).set _ _ _ rfl
  have cc : Ch wr (w1.setCell ⟨N + 20, 11, none⟩ (.slice (some aR') (kr + 1) cR')) (· = N + 20) := (c.trans c2).mono (fun k hk => hk.elim False.elim id)
  have hsz := h.keep.sz
  exact ⟨h.keep.ch cc (by omega) (by omega) (fun k hk => .inl (by omega)) (fun k hk => by omega), (set_block st1).trans (by rfl), ownsMap_ch h.oU cc (by omega), ownsMap_ch h.oP cc (by omega), row_ch h.ids cc (by omega), h.pbl⟩
end

/-- The hosts' maps are filled: host t's members up to a t, its grants up to b t. -/
structure L4 (w0 : World) (N nh nu np : Nat) (a b : Nat → Nat) (hi ui uR pi pR : Value) (rb rc : Nat) (M G : Nat → Nat) (P : Nat → Nat → Bool) (R T : Nat → Nat → Int) (wr : World) : Prop where
  st : wr.heap[N + 20]? = some (.cells (stN N hi (.slice (some ⟨rb, 0, none⟩) nh rc) ui uR pi pR) 49 (0, 0))
  oH : wr.ownsMap Yba.prog 9 (plainElem Yba.prog 57) (N + 5) nh (numD hostL nh)
  oU : wr.ownsMap Yba.prog 9 (plainElem Yba.prog 51) (N + 9) nu (numD userL nu)
  oP : wr.ownsMap Yba.prog 9 (plainElem Yba.prog 79) (N + 13) np (numD permL np)
  row : wr.ownsRow 0 64 6 (.slice (some ⟨rb, 0, none⟩) nh rc) nh (hostCells M G nh)
  mg : ∀ t, t < nh → N + 21 ≤ M t ∧ M t < G t ∧ ∀ s, s < t → G s < M t
  mem : ∀ t, t < nh → wr.ownsMap Yba.prog 51 (plainElem Yba.prog 60) (M t) (a t) (memD (P t) (R t) (a t))
  grt : ∀ t, t < nh → wr.ownsMap Yba.prog 79 (plainElem Yba.prog 60) (G t) (b t) (memD (fun _ => true) (T t) (b t))
  bel : Below N w0 wr
  sz : N + 21 ≤ wr.heap.size

theorem L4_start {w0 wr : World} {N nh nu np pb pc cR : Nat} {aR : Addr} {xs : List Value} {hi ui uR : Value} {rb rc : Nat} {M G : Nat → Nat} (P : Nat → Nat → Bool) (R T : Nat → Nat → Int) (h : L3 w0 N nh nu np np np pb pc cR aR xs hi ui uR rb rc M G wr) :
    L4 w0 N nh nu np (fun _ => 0) (fun _ => 0) hi ui uR (.slice (some ⟨pb, 0, none⟩) np pc) (.slice (some aR) np cR) rb rc M G P R T wr :=
  ⟨h.st, h.keep.oH, h.oU, h.oP, h.keep.row, fun t ht => ⟨(h.keep.mg t ht).1, (h.keep.mg t ht).2.1, (h.keep.mg t ht).2.2.2⟩, fun t ht => map_made _ _ _ _ _ (h.keep.mm t ht).1, fun t ht => map_made _ _ _ _ _ (h.keep.mm t ht).2, h.keep.bel, h.keep.sz⟩

theorem mg_ne {N nh : Nat} {M G : Nat → Nat} (mg : ∀ t, t < nh → N + 21 ≤ M t ∧ M t < G t ∧ ∀ s, s < t → G s < M t) {s t : Nat} (hs : s < nh) (ht : t < nh) : M s ≠ G t ∧ (s ≠ t → M s ≠ M t ∧ G s ≠ G t) := by
  have h1 := mg s hs
  have h2 := mg t ht
  rcases Nat.lt_trichotomy s t with h | h | h
  · have := h2.2.2 s h
    omega
  · subst h
    exact ⟨by omega, fun e => absurd rfl e⟩
  · have := h1.2.2 t h
    omega

section
variable {w0 wr wx : World} {N nh nu np : Nat} {a b : Nat → Nat} {hi ui uR pi pR : Value} {rb rc : Nat} {M G : Nat → Nat} {P : Nat → Nat → Bool} {R T : Nat → Nat → Int}

/-- A member is laid into host i's map. -/
theorem L4.memStep (h : L4 w0 N nh nu np a b hi ui uR pi pR rb rc M G P R T wr) {i : Nat} (hi' : i < nh) (ho : wx.ownsMap Yba.prog 51 (plainElem Yba.prog 60) (M i) (a i + 1) (memD (P i) (R i) (a i + 1))) (hg : wr.grownBy wx (some (M i))) :
    L4 w0 N nh nu np (fun t => if t = i then a i + 1 else a t) b hi ui uR pi pR rb rc M G P R T wx := by
  have c := Ch.of_gb hg
  obtain ⟨c2, h2⟩ := row_block h.row
  obtain ⟨es, ck, h3, _⟩ := h.mem i hi'
  have hl := (h.mg i hi').1
  have nr : rb ≠ M i := ne_block h2 h3 cells_ne_map
  have nS : N + 20 ≠ M i := by omega
  refine ⟨c.at h.st nS, ownsMap_ch h.oH c (by omega), ownsMap_ch h.oU c (by omega), ownsMap_ch h.oP c (by omega), row_ch h.row c nr, h.mg, fun t ht => ?_, fun t ht => ?_, Ch.below h.bel c (by have := h.sz; omega) (fun k hk => by omega), by have := c.size; have := h.sz; omega⟩
  · by_cases e : t = i
    · subst e; simpa using ho
    · simp only [if_neg e]
      exact ownsMap_ch (h.mem t ht) c ((mg_ne h.mg ht hi').2 e).1
  · exact ownsMap_ch (h.grt t ht) c (fun e => (mg_ne h.mg hi' ht).1 e.symm)

/-- A pair that is not present is passed over. -/
theorem L4.memSkip (h : L4 w0 N nh nu np a b hi ui uR pi pR rb rc M G P R T wr) {i : Nat} (hi' : i < nh) (hp : P i (a i) = false) :
    L4 w0 N nh nu np (fun t => if t = i then a i + 1 else a t) b hi ui uR pi pR rb rc M G P R T wr := by
  refine ⟨h.st, h.oH, h.oU, h.oP, h.row, h.mg, fun t ht => ?_, h.grt, h.bel, h.sz⟩
  by_cases e : t = i
  · subst e
    simp only [if_true]
    have := (h.mem t ht).mono (Nat.le_succ _)
    unfold memD
    rw [if_neg (by simp [hp])]
    exact this
  · simp only [if_neg e]
    exact h.mem t ht

theorem L4.grtStep (h : L4 w0 N nh nu np a b hi ui uR pi pR rb rc M G P R T wr) {i : Nat} (hi' : i < nh) (ho : wx.ownsMap Yba.prog 79 (plainElem Yba.prog 60) (G i) (b i + 1) (memD (fun _ => true) (T i) (b i + 1))) (hg : wr.grownBy wx (some (G i))) :
    L4 w0 N nh nu np a (fun t => if t = i then b i + 1 else b t) hi ui uR pi pR rb rc M G P R T wx := by
  have c := Ch.of_gb hg
  obtain ⟨c2, h2⟩ := row_block h.row
  obtain ⟨es, ck, h3, _⟩ := h.grt i hi'
  have hl := (h.mg i hi').1
  have hl2 := (h.mg i hi').2.1
  have nr : rb ≠ G i := ne_block h2 h3 cells_ne_map
  refine ⟨c.at h.st (by omega), ownsMap_ch h.oH c (by omega), ownsMap_ch h.oU c (by omega), ownsMap_ch h.oP c (by omega), row_ch h.row c nr, h.mg, fun t ht => ?_, fun t ht => ?_, Ch.below h.bel c (by have := h.sz; omega) (fun k hk => by omega), by have := c.size; have := h.sz; omega⟩
  · exact ownsMap_ch (h.mem t ht) c (mg_ne h.mg ht hi').1
  · by_cases e : t = i
    · subst e; simpa using ho
    · simp only [if_neg e]
      exact ownsMap_ch (h.grt t ht) c ((mg_ne h.mg ht hi').2 e).2

theorem L4.congr (h : L4 w0 N nh nu np a b hi ui uR pi pR rb rc M G P R T wr) {a' b' : Nat → Nat} (ha : ∀ t, t < nh → a t = a' t) (hb : ∀ t, t < nh → b t = b' t) : L4 w0 N nh nu np a' b' hi ui uR pi pR rb rc M G P R T wr :=
  ⟨h.st, h.oH, h.oU, h.oP, h.row, h.mg, fun t ht => by rw [← ha t ht]; exact h.mem t ht, fun t ht => by rw [← hb t ht]; exact h.grt t ht, h.bel, h.sz⟩

theorem L4.ready (h : L4 w0 N nh nu np (fun _ => nu) (fun _ => np) hi ui uR pi pR rb rc M G P R T wr) (hnh : nh < 4) (hnu : nu < 4) (hnp : np < 4) : Ready wr (N + 20) (N + 5) (N + 9) (N + 13) rb rc nh nu np 4 4 hostL userL permL M G P R T := by
  obtain ⟨c3, c4, c5, c6, c7, c8, c9, c10, c11⟩ := st_cells h.st
  exact ⟨c3, c5, c6, c9, h.oH.mono (by omega), h.oU.mono (by omega), h.oP.mono (by omega), h.row, fun t ht => (h.mem t ht).mono (by omega), fun t ht => (h.grt t ht).mono (by omega)⟩
end

section
variable {w0 wr wx : World} {N nh nu np x y : Nat} {a b : Nat → Nat} {hi ui uR pi pR : Value} {rb rc : Nat} {M G : Nat → Nat} {P : Nat → Nat → Bool} {R T : Nat → Nat → Int}

theorem L4.mem_at (h : L4 w0 N nh nu np (fun t => if t < x then nu else if t = x then y else 0) b hi ui uR pi pR rb rc M G P R T wr) (hx : x < nh) :
    wr.ownsMap Yba.prog 51 (plainElem Yba.prog 60) (M x) y (memD (P x) (R x) y) := by
  simpa using h.mem x hx

theorem L4.grt_at (h : L4 w0 N nh nu np a (fun t => if t < x then np else if t = x then y else 0) hi ui uR pi pR rb rc M G P R T wr) (hx : x < nh) :
    wr.ownsMap Yba.prog 79 (plainElem Yba.prog 60) (G x) y (memD (fun _ => true) (T x) y) := by
  simpa using h.grt x hx

theorem tri_step (x y n t : Nat) : (if t = x then (if x < x then n else if x = x then y else 0) + 1 else if t < x then n else if t = x then y else 0) = (if t < x then n else if t = x then y + 1 else 0) := by
  by_cases e : t = x
  · subst e; simp
  · simp [e]

theorem L4.memRound (h : L4 w0 N nh nu np (fun t => if t < x then nu else if t = x then y else 0) b hi ui uR pi pR rb rc M G P R T wr) (hx : x < nh) (hp : P x y = true)
    (ho : wx.ownsMap Yba.prog 51 (plainElem Yba.prog 60) (M x) (y + 1) ((memD (P x) (R x) y).put (.int .i32 y) (.lit (.int .u8 (R x y))))) (hg : wr.grownBy wx (some (M x))) :
    L4 w0 N nh nu np (fun t => if t < x then nu else if t = x then y + 1 else 0) b hi ui uR pi pR rb rc M G P R T wx := by
  have e : memD (P x) (R x) (y + 1) = (memD (P x) (R x) y).put (.int .i32 y) (.lit (.int .u8 (R x y))) := by conv => lhs; unfold memD; rw [if_pos hp]
  rw [← e] at ho
  exact (h.memStep hx (by simpa using ho) hg).congr (fun t _ => tri_step x y nu t) (fun t _ => rfl)

theorem L4.memPass (h : L4 w0 N nh nu np (fun t => if t < x then nu else if t = x then y else 0) b hi ui uR pi pR rb rc M G P R T wr) (hx : x < nh) (hp : P x y = false) :
    L4 w0 N nh nu np (fun t => if t < x then nu else if t = x then y + 1 else 0) b hi ui uR pi pR rb rc M G P R T wr :=
  (h.memSkip hx (by simpa using hp)).congr (fun t _ => tri_step x y nu t) (fun t _ => rfl)

theorem L4.grtRound (h : L4 w0 N nh nu np a (fun t => if t < x then np else if t = x then y else 0) hi ui uR pi pR rb rc M G P R T wr) (hx : x < nh)
    (ho : wx.ownsMap Yba.prog 79 (plainElem Yba.prog 60) (G x) (y + 1) ((memD (fun _ => true) (T x) y).put (.int .i32 y) (.lit (.int .u8 (T x y))))) (hg : wr.grownBy wx (some (G x))) :
    L4 w0 N nh nu np a (fun t => if t < x then np else if t = x then y + 1 else 0) hi ui uR pi pR rb rc M G P R T wx := by
  have e : memD (fun _ => true) (T x) (y + 1) = (memD (fun _ => true) (T x) y).put (.int .i32 y) (.lit (.int .u8 (T x y))) := by conv => lhs; unfold memD; rw [if_pos rfl]
  rw [← e] at ho
  exact (h.grtStep hx (by simpa using ho) hg).congr (fun t _ => rfl) (fun t _ => tri_step x y np t)

theorem tri_done (x n t : Nat) : (if t < x then n else if t = x then n else 0) = (if t < x + 1 then n else 0) := by
  by_cases e : t < x
  · rw [if_pos e, if_pos (by omega)]
  · rw [if_neg e]
    by_cases e2 : t = x
    · rw [if_pos e2, if_pos (by omega)]
    · rw [if_neg e2, if_neg (by omega)]

theorem tri_open (x n t : Nat) : (if t < x then n else 0) = (if t < x then n else if t = x then 0 else 0) := by simp
end

theorem cnt_pos {pr : Nat → Bool} {y : Nat} (h : pr y = true) : cnt pr (y + 1) = cnt pr y + 1 := by
  conv => lhs; unfold cnt
  rw [if_pos h]

theorem cnt_neg {pr : Nat → Bool} {y : Nat} (h : pr y = false) : cnt pr (y + 1) = cnt pr y := by
  conv => lhs; unfold cnt
  rw [if_neg (by simp [h])]
  rfl

theorem L4.drewN {w0 wr : World} {N nh nu np : Nat} {a b : Nat → Nat} {hi ui uR pi pR : Value} {rb rc : Nat} {M G : Nat → Nat} {P : Nat → Nat → Bool} {R T : Nat → Nat → Int} (h : L4 w0 N nh nu np a b hi ui uR pi pR rb rc M G P R T wr) (n : Nat) : L4 w0 N nh nu np a b hi ui uR pi pR rb rc M G P R T (wr.drewN n) :=
  ⟨h.st, h.oH, h.oU, h.oP, h.row, h.mg, h.mem, h.grt, ⟨h.bel.os, h.bel.tape, h.bel.output, h.bel.size, h.bel.block⟩, h.sz⟩

theorem len_is {P : Program} {ops : Array Oper} {Q : Exit → Act → World → Prop} {o : Oper} {rest : List Oper} {a : Act} {w : World} (hg : o.guard = none) (m : Operand) (t : TypeId) (hop : o.op = Op.call { callee := Callee.builtin Builtin.len, args := #[m], argTypes := #[t] })
    (k e : TypeId) (ht : P.underlying t = some (.map k e)) (R : Value → Option (DataW Unit × List MemPlace)) (b n : Nat) (D : DataW Unit) (hm : a.eval m = .map (some b)) (hown : w.ownsMap P k R b n D) (c : Nat) (hs : Maps.size D = c)
    (hK : wpList P ops Q rest (a.put o.dst (.int .i64 (c : Int))) w) :
    wpList P ops Q (o :: rest) a w :=
  wpList_len_own _ hg m t hop k e ht R b n D hm hown (by rw [hs]; exact hK)

theorem sumC_succ (P : Nat → Nat → Bool) (nu x : Nat) : sumC P nu (x + 1) = sumC P nu x + cnt (P x) nu := rfl

end Go.Proofs.Ybulkbglm
