/-
  LawS2872AMatchesModel: what the loops of the law keep; plain laws.
-/
import Derived.Test.YbulkbglmA7
import Derived.BigQuiet
import Derived.Deep.QuietTactic
import Derived.Deep.RegionHeld3
import Derived.Deep.RegionLaw
namespace Go.Proofs.Ybulkbglm
open Go Go.RowKit Go.Maps Go.WideMaps
set_option linter.unusedSimpArgs false
set_option linter.unusedVariables false

/-- a slice of texts that came in -/
structure Tex (w : World) (a : Option Addr) (n : Nat) (l : List (List UInt8)) : Prop where
  len : l.length = n
  le : ∀ x ∈ l, x.length ≤ maxLen
  cell : ∀ i x, l[i]? = some x → ∃ ad, a = some ad ∧ ad.block < w.heap.size ∧ w.cell? (ad.add i) = some (.string ⟨x.toArray⟩)
/-- a slice of bytes -/
structure Byt (w : World) (a : Option Addr) (n : Nat) (l : List Nat) : Prop where
  len : l.length = n
  le : ∀ x ∈ l, x < 256
  cell : ∀ (i x : Nat), l[i]? = some x → ∃ ad, a = some ad ∧ ad.block < w.heap.size ∧ w.cell? (ad.add i) = some (.int .u8 (x : Int))
/-- a slice of pairs of bytes -/
structure Prs (w : World) (a : Option Addr) (n : Nat) (l : List (Nat × Nat)) : Prop where
  len : l.length = n
  le : ∀ x ∈ l, x.1 < 256 ∧ x.2 < 256
  cell : ∀ (i u h : Nat), l[i]? = some (u, h) → ∃ ad, a = some ad ∧ ad.block < w.heap.size ∧ w.cell? (ad.add (i * 2)) = some (.int .u8 (u : Int)) ∧ w.cell? (ad.add (i * 2 + 1)) = some (.int .u8 (h : Int))

theorem addB (x : Addr) (i : Nat) : (x.add i).block = x.block := by unfold Addr.add; split <;> rfl

theorem add_succ (x : Addr) (k : Nat) : (⟨(x.add k).block, (x.add k).off + 1, none⟩ : Addr) = x.add (k + 1) := by
  unfold Addr.add
  split <;> simp_all <;> omega

theorem Yba.info59 : (Yba.prog.info? 59).map (fun i => (i.zero, i.size, i.bytes)) = some (some (.agg #[.string ⟨#[]⟩, .string ⟨#[]⟩, .int .i32 0, .string ⟨#[]⟩, .int .u64 0, .int .i64 0, .pointer none, .slice none 0 0, .int .i32 0]), 9, 112) := by kernel_rfl
theorem Yba.info9a : (Yba.prog.info? 9).map (fun i => (i.zero, i.size, i.bytes)) = some (some (.string ⟨#[]⟩), 1, 16) := by kernel_rfl
theorem Yba.info64a : (Yba.prog.info? 64).map (fun i => (i.zero, i.size, i.bytes)) = some (some (.agg #[.int .i32 0, .string ⟨#[]⟩, .int .i32 0, .int .u8 0, .map none, .map none]), 6, 48) := by kernel_rfl
theorem Yba.info66a : (Yba.prog.info? 66).map (fun i => (i.zero, i.size, i.bytes)) = some (some (.agg #[]), 0, 0) := by kernel_rfl
theorem Yba.info57a : (Yba.prog.info? 57).map (fun i => (i.zero, i.size, i.bytes)) = some (some (.int .i32 0), 1, 4) := by kernel_rfl
theorem zero27 (w : World) : (zeroValue 27).run Yba.prog w = .ok (.int .i32 0) w := by kernel_rfl

/-- while the domains are laid -/
structure D1 (N : Nat) (w : World) (dl : List (List UInt8)) (i : Nat) (V : Nat → Value) (L : Nat → Nat) (C : Nat → List Value) (DO : DataW Unit) (c : Nat) (wr : World) : Prop where
  q : Q N V L C (sl0 (N + 11)) DO (.map []) (fun _ => []) (fun _ => .slice none 0 0) c wr
  nn : NN V L
  cc : c ≤ i
  c0 : C 0 = (dl.take i).map encStr
  l0 : L 0 = i
  l1 : L 1 = i
  v2 : V 2 = sl0 (N + 6) ∧ V 3 = sl0 (N + 7) ∧ V 4 = sl0 (N + 10) ∧ L 2 = 0 ∧ L 3 = 0 ∧ L 4 = 0 ∧ C 2 = [] ∧ C 3 = [] ∧ C 4 = []
  bel : Below N w wr

/-- while the hosts are laid -/
structure D2 (N : Nat) (w : World) (dl : List (List UInt8)) (zl : List Nat) (n0 j : Nat) (V : Nat → Value) (L : Nat → Nat) (C : Nat → List Value) (DO : DataW Unit) (c : Nat) (wr : World) : Prop where
  q : Q N V L C (sl0 (N + 11)) DO (.map []) (fun _ => []) (fun _ => .slice none 0 0) c wr
  nn : NN V L
  cc : c ≤ 256
  c0 : C 0 = dl.map encStr
  l0 : L 0 = n0
  c3 : C 3 = hC ((zl.take j).map (· % n0))
  l2 : L 2 = j
  l3 : L 3 = j
  v4 : V 4 = sl0 (N + 10) ∧ L 4 = 0 ∧ C 4 = []
  bel : Below N w wr

theorem D1.start2 {N : Nat} {w wr : World} {dl : List (List UInt8)} {zl : List Nat} {n0 : Nat} {V : Nat → Value} {L : Nat → Nat} {C : Nat → List Value} {DO : DataW Unit} {c : Nat} (h : D1 N w dl n0 V L C DO c wr) (hl : dl.length = n0) (hn : n0 ≤ 256) : D2 N w dl zl n0 0 V L C DO c wr := by
  obtain ⟨v2, v3, v4, l2, l3, l4, c2, c3, c4⟩ := h.v2
  refine ⟨h.q, h.nn, Nat.le_trans h.cc hn, ?_, h.l0, ?_, l2, l3, ⟨v4, l4, c4⟩, h.bel⟩
  · rw [h.c0, List.take_of_length_le (by omega)]
  · rw [c3]; rfl

theorem keep_alloc {a : World} {p : Addr} {v : Value} (o : Obj) (h : a.cell? p = some v) : (a.alloc o).cell? p = some v := ((Ch.refl a (fun _ => False)).alloc o).cell h id
theorem keep_drew {a : World} {p : Addr} {v : Value} (h : a.cell? p = some v) : a.drew.cell? p = some v := h

section
variable {P : Program}
theorem step_own {w : World} {ops : Array Oper} {o : Oper} {a : Act} {K : Act → World → Prop} {Q : Exit → Act → World → Prop} {E : Prop} (hgd : o.guard = none) (s x : Operand) (t : TypeId)
    (ho : o.op = .call { callee := .builtin .append, args := #[s, x], argTypes := #[t, t] })
    (e : TypeId) (i : TypeInfo) (z : Value) (size bytes : Nat) (ht : P.underlying t = some (.slice e)) (hi : P.info? e = some i) (hz : i.zero = some z)
    (hsize : i.size = size) (hby : i.bytes = bytes) (hzs : z.cells.size = size) (hsz : 0 < size)
    (B n : Nat) (v : Value) (xs : List Value) (hs : a.eval s = v) (hown : w.ownsRow B e size v n xs)
    (ad : Addr) (m c : Nat) (news : List Value) (hm : 0 < m) (hx : a.eval x = .slice (some ad) m c) (hl : news.length = m * size) (hnews : ∀ j u, news[j]? = some u → w.cell? (ad.add j) = some u) (h1 : ∀ u ∈ news, u.oneCell' = true)
    (h63 : n + m ≤ maxLen) (hbytes : (n + m) * bytes ≤ 140737488355328) (hB : B ≤ w.heap.size)
    (h : ∀ b' cap' w', w'.ownsRow B e size (.slice (some ⟨b', 0, none⟩) (n + m) cap') (n + m) (xs ++ news) → w.grownBy w' v.ownBlock → (v.ownBlock = some b' ∨ b' = w.heap.size) → K (a.put o.dst (.slice (some ⟨b', 0, none⟩) (n + m) cap')) w') :
    if Region.wanted o (yielded ops a.tmps) = true then Oper.wp P o a w K Q else E := by
  have hw : Region.wanted o (yielded ops a.tmps) = true := by simp [Region.wanted, hgd]
  rw [if_pos hw]
  obtain ⟨v', w', hr, h2, h3, h4, h5⟩ := run_append_own_at (P := P) w B t o.type e i z size bytes ht hi hz hsize hby hzs hsz _ n xs hown ad m c news hl hnews h1 h63 hbytes hB
  rcases h2.2 with ⟨hh, h0⟩ | ⟨g, cap', cur, rfl, r⟩
  · omega
  · unfold Oper.wp execOp
    simp only [ho, resolve, invoke, builtin, Sem.run_bind, Sem.run_pure, Result.andThen_ok, List.map_toArray, List.map_cons, List.map_nil, hs, hx, hr]
    exact h g cap' w' h2 h3 (by simpa [Value.ownBlock, eq_comm] using h5)
end

/-- the hosts of user u, by the pairs so far -/
def gp (pl : List (Nat × Nat)) (n2 n1 u : Nat) : List Nat := (pl.filter (fun p => p.1 % n2 = u)).map (fun p => p.2 % n1)
theorem gp_snoc (pl : List (Nat × Nat)) (n2 n1 x y : Nat) : gp (pl ++ [(x, y)]) n2 n1 = upV (gp pl n2 n1) (x % n2) (gp pl n2 n1 (x % n2) ++ [y % n1]) := by
  funext u
  unfold gp upV
  by_cases e : u = x % n2
  · subst e
    rw [if_pos rfl]
    simp
  · rw [if_neg e]
    have : ¬ (x % n2 = u) := fun h => e h.symm
    simp [this]
theorem gp_length (pl : List (Nat × Nat)) (n2 n1 u : Nat) : (gp pl n2 n1 u).length ≤ pl.length := by
  unfold gp
  rw [List.length_map]
  exact List.length_filter_le _ _

/-- while the memberships are laid -/
structure D4 (N : Nat) (w : World) (dl : List (List UInt8)) (hs : List Nat) (ul : List (List UInt8)) (pl : List (Nat × Nat)) (n2 n1 m : Nat) (V : Nat → Value) (L : Nat → Nat) (C : Nat → List Value) (ur : Value) (DO DU : DataW Unit) (F : Nat → Value) (c : Nat) (wr : World) : Prop where
  q : Q N V L C ur DO DU (gp (pl.take m) n2 n1) F c wr
  nn : NN V L
  cc : c ≤ 512 + m
  c0 : C 0 = dl.map encStr
  l0 : L 0 = dl.length
  c3 : C 3 = hC hs
  l3 : L 3 = hs.length
  num : Num DU ul
  bel : Below N w wr

/-- while the users are laid -/
structure D3 (N : Nat) (w : World) (dl : List (List UInt8)) (hs : List Nat) (ul : List (List UInt8)) (t : Nat) (V : Nat → Value) (L : Nat → Nat) (C : Nat → List Value) (ur : Value) (DO DU : DataW Unit) (c : Nat) (wr : World) : Prop where
  q : Q N V L C ur DO DU (fun _ => []) (fun _ => .slice none 0 0) c wr
  nn : NN V L
  cc : c ≤ 256 + t
  c0 : C 0 = dl.map encStr
  l0 : L 0 = dl.length
  c3 : C 3 = hC hs
  l3 : L 3 = hs.length
  l4 : L 4 = t
  num : Num DU (ul.take t)
  ur : ∃ a cap, ur = .slice (some a) t cap
  bel : Below N w wr

theorem D3.start4 {N : Nat} {w wr : World} {dl ul : List (List UInt8)} {hs : List Nat} {t : Nat} {V : Nat → Value} {L : Nat → Nat} {C : Nat → List Value} {ur : Value} {DO DU : DataW Unit} {c : Nat} (h : D3 N w dl hs ul t V L C ur DO DU c wr) (hl : ul.length = t) (ht : t ≤ 256) (pl : List (Nat × Nat)) (n2 n1 : Nat) : D4 N w dl hs ul pl n2 n1 0 V L C ur DO DU (fun _ => .slice none 0 0) c wr := by
  have hn := h.num
  rw [List.take_of_length_le (by omega)] at hn
  exact ⟨h.q, h.nn, by have := h.cc; omega, h.c0, h.l0, h.c3, h.l3, hn, h.bel⟩

theorem D2.start3 {N : Nat} {w wr : World} {dl ul : List (List UInt8)} {zl : List Nat} {n0 j : Nat} {V : Nat → Value} {L : Nat → Nat} {C : Nat → List Value} {DO : DataW Unit} {c : Nat} (h : D2 N w dl zl n0 j V L C DO c wr) (hl : dl.length = n0) (hj : zl.length = j) : D3 N w dl (zl.map (· % n0)) ul 0 V L C (sl0 (N + 11)) DO (.map []) c wr := by
  refine ⟨h.q, h.nn, by have := h.cc; omega, h.c0, by rw [h.l0, hl], ?_, by rw [h.l3]; simp [hj], h.v4.2.1, Num.empty, ⟨_, _, rfl⟩, h.bel⟩
  rw [h.c3, List.take_of_length_le (by omega)]

theorem D3.next {N : Nat} {w wr w4 : World} {dl ul : List (List UInt8)} {hs : List Nat} {t : Nat} {V : Nat → Value} {L : Nat → Nat} {C : Nat → List Value} {ur : Value} {DO DU DU' : DataW Unit} {c c' : Nat} {b1 c1 : Nat} {a : Addr} {c2 : Nat} {news : List Value}
    (h : D3 N w dl hs ul t V L C ur DO DU c wr) (hc : c' ≤ 256 + (t + 1)) (hnum : Num DU' (ul.take (t + 1)))
    (hq : Q N (upV V 4 (.slice (some ⟨b1, 0, none⟩) (t + 1) c1)) (upV L 4 (t + 1)) (upV C 4 (C 4 ++ news)) (.slice (some a) (t + 1) c2) DO DU' (fun _ => []) (fun _ => .slice none 0 0) c' w4) (hb : Below N w w4) :
    ∃ V L C ur DU c, D3 N w dl hs ul (t + 1) V L C ur DO DU c w4 :=
  ⟨_, _, _, _, _, _, hq, h.nn.up (r := 4), hc, h.c0, h.l0, h.c3, h.l3, rfl, hnum, ⟨_, _, rfl⟩, hb⟩

theorem D2.next {N : Nat} {w wr w4 : World} {dl : List (List UInt8)} {zl : List Nat} {n0 j : Nat} {V : Nat → Value} {L : Nat → Nat} {C : Nat → List Value} {DO : DataW Unit} {c : Nat} {z : Nat} {b1 c1 b2 c2 : Nat} {news : List Value}
    (h : D2 N w dl zl n0 j V L C DO c wr) (hz : zl[j]? = some z)
    (hq : Q N (upV (upV V 2 (.slice (some ⟨b1, 0, none⟩) (j + 1) c1)) 3 (.slice (some ⟨b2, 0, none⟩) (j + 1) c2)) (upV (upV L 2 (j + 1)) 3 (j + 1)) (upV (upV C 2 (C 2 ++ news)) 3 (C 3 ++ hC1 (z % n0))) (sl0 (N + 11)) DO (.map []) (fun _ => []) (fun _ => .slice none 0 0) c w4) (hb : Below N w w4) :
    ∃ V L C c, D2 N w dl zl n0 (j + 1) V L C DO c w4 := by
  refine ⟨_, _, _, _, hq, ?_, h.cc, h.c0, h.l0, ?_, rfl, rfl, h.v4, hb⟩
  · exact (h.nn.up (r := 2)).up (r := 3)
  · show C 3 ++ hC1 (z % n0) = _
    rw [h.c3, List.take_add_one, hz]
    simp [hC_snoc]

theorem D1.next {N : Nat} {w wr w4 : World} {dl : List (List UInt8)} {i : Nat} {V : Nat → Value} {L : Nat → Nat} {C : Nat → List Value} {DO DO' : DataW Unit} {c c' : Nat} {d : List UInt8} {b1 c1 b2 c2 : Nat} {news : List Value}
    (h : D1 N w dl i V L C DO c wr) (hd : dl[i]? = some d) (hc : c' ≤ i + 1)
    (hq : Q N (upV (upV V 0 (.slice (some ⟨b1, 0, none⟩) (i + 1) c1)) 1 (.slice (some ⟨b2, 0, none⟩) (i + 1) c2)) (upV (upV L 0 (i + 1)) 1 (i + 1)) (upV (upV C 0 (C 0 ++ [.string ⟨d.toArray⟩])) 1 (C 1 ++ news)) (sl0 (N + 11)) DO' (.map []) (fun _ => []) (fun _ => .slice none 0 0) c' w4) (hb : Below N w w4) :
    ∃ V L C DO c, D1 N w dl (i + 1) V L C DO c w4 := by
  refine ⟨_, _, _, _, _, hq, ?_, hc, ?_, rfl, rfl, h.v2, hb⟩
  · exact (h.nn.up (r := 0)).up (r := 1)
  · show C 0 ++ [.string ⟨d.toArray⟩] = _
    rw [h.c0, List.take_add_one, hd]
    simp [encStr]

theorem D4.next {N : Nat} {w wr W w6 : World} {dl ul : List (List UInt8)} {hs : List Nat} {pl : List (Nat × Nat)} {n2 n1 m : Nat} {V : Nat → Value} {L : Nat → Nat} {C : Nat → List Value} {ur : Value} {DO DU : DataW Unit} {F : Nat → Value} {c : Nat} {pu ph u0 y0 : Nat} {s : Value}
    (h : D4 N w dl hs ul pl n2 n1 m V L C ur DO DU F c wr) (hpm : pl[m]? = some (pu, ph)) (hu : pu % n2 = u0) (hy : ph % n1 = y0) (hb : Below N w W) (hsz : N ≤ W.heap.size)
    (hq : Q N V L C ur DO DU (upV (gp (pl.take m) n2 n1) u0 (gp (pl.take m) n2 n1 u0 ++ [y0])) (upV F u0 s) (c + 1) w6) (hch : Ch W w6 (Qt N)) :
    ∃ F c, D4 N w dl hs ul pl n2 n1 (m + 1) V L C ur DO DU F c w6 := by
  refine ⟨upV F u0 s, c + 1, ?_, h.nn, by have := h.cc; omega, h.c0, h.l0, h.c3, h.l3, h.num, Ch.below hb hch hsz (fun q hq => hq)⟩
  have e1 : pl.take (m + 1) = pl.take m ++ [(pu, ph)] := by rw [List.take_add_one, hpm]; rfl
  rw [e1, gp_snoc, hu, hy]
  exact hq

theorem small_facts {x t y : Nat} (ht : 0 < t) (h : ¬ 256 < t) (hx : x < 256) (e : x % t = y) : y < t ∧ y < 256 ∧ (x : Int) % (t : Int) = (y : Int) ∧ wrap32 (y : Int) = y ∧ (x : Int).tmod (t : Int) = (y : Int) ∧ IntKind.i64.wrap (x : Int) = x ∧ IntKind.i32.wrap (y : Int) = y ∧ (Lit.int .i32 (y : Int)).wf = true ∧ ((t : Int) == 0) = false ∧ ¬ t = 0 := by
  have h1 : y < t := by rw [← e]; exact Nat.mod_lt _ ht
  refine ⟨h1, by omega, by rw [← e]; rfl, by unfold wrap32; omega, by rw [← e]; exact (Int.ofNat_tmod x t).symm, by rw [IntKind.wrap_i64]; omega, by rw [IntKind.wrap_i32]; omega, WalkArith.wf_i32 (by omega), by simp; omega, by omega⟩

section
variable {N : Nat} {V : Nat → Value} {L : Nat → Nat} {C : Nat → List Value} {ur : Value} {DO DU : DataW Unit} {G : Nat → List Nat} {F : Nat → Value} {c : Nat} {w w2 : World}
theorem Q.group2 (h : Q N V L C ur DO DU G F c w) (hc : c < maxLen) (u : Nat) (hu : (Lit.int .i32 (u : Int)).wf = true) (x : Nat) {g n cap : Nat} (hown : w2.ownsRow 0 57 1 (.slice (some ⟨g, 0, none⟩) n cap) (G u ++ [x]).length (gC (G u ++ [x]))) (hg : w.grownBy w2 (F u).ownBlock) (hloc : (F u).ownBlock = some g ∨ g = w.heap.size)
    {p : Nat} {ph : Value} {b0 : Value} (hbx : w.heap[p]? = some (.cells #[b0, ph] 68 (0, 0))) :
    ∃ w3, (Instr.mapUpdate 45 (.map (some (N + 17))) (.int .i32 (u : Int)) (.slice (some ⟨g, 0, none⟩) n cap)).run Yba.prog w2 = .ok () w3 ∧ Q N V L C ur DO DU (upV G u (G u ++ [x])) (upV F u (.slice (some ⟨g, 0, none⟩) n cap)) (c + 1) w3 ∧ Ch w w3 (Qt N)
      ∧ w2.cell? ⟨N + 20, 13, none⟩ = some (.map (some (N + 17))) ∧ w2.cell? ⟨p, 1, none⟩ = some ph ∧ w3.cell? ⟨N + 20, 13, none⟩ = some (.map (some (N + 17))) ∧ w3.cell? ⟨p, 1, none⟩ = some ph := by
  obtain ⟨w3, hr, hq, hch⟩ := h.group hc u hu x hown hg hloc
  have k1 : Ch w w2 (fun k => (F u).ownBlock = some k) := ⟨hg.os, hg.tape, hg.output, hg.size, fun k hk hx => hg.block k hk (fun e => hx e.symm)⟩
  obtain ⟨D, hD, hI, hA⟩ := h.mM
  have hD2 := ownsMap_ch hD k1 (fun e => (h.grpNe e).2.2.2.1 rfl)
  have hsl : Sl (.slice (some ⟨g, 0, none⟩) n cap) := .inr ⟨g, n, cap, rfl⟩
  obtain ⟨w3', hr', ho, hg3⟩ := hD2.update law51 Yba.underlying45 hc (keyOf_int_mk Yba.underlying51 hu) (slR_mk hsl)
  have e3 : w3' = w3 := by
    have := hr'.symm.trans hr
    injection this
  subst e3
  have k3 : Ch w2 w3' (· = N + 17) := Ch.of_gb hg3
  have b2 : w2.heap[p]? = some (.cells #[b0, ph] 68 (0, 0)) := k1.at hbx (fun e => by
    obtain ⟨cur, hb'⟩ := own_block (h.gr u) e
    rw [hbx] at hb'
    injection hb' with e
    injection e with _ e
    exact absurd e (by decide))
  have b3 := k3.at b2 (fun e => by
    obtain ⟨_, _, hb⟩ := map_block hD
    have e' : p = N + 17 := e
    rw [e', hb] at hbx
    injection hbx with e
    cases e)
  exact ⟨w3', hr, hq, hch, cell_block (k1.at h.st (fun e => (h.grpNe e).1 rfl)) rfl, cell_block b2 rfl, cell_block hq.st rfl, cell_block b3 rfl⟩
end

/-! ### Behind the loops -/
theorem D2.start3' {N : Nat} {w wr : World} {dl ul : List (List UInt8)} {zl : List Nat} {n0 j : Nat} {V : Nat → Value} {L : Nat → Nat} {C : Nat → List Value} {DO : DataW Unit} {c : Nat} (h : D2 N w dl zl n0 j V L C DO c wr) (hl : dl.length = n0) (hj : j ≤ zl.length) : D3 N w dl ((zl.take j).map (· % n0)) ul 0 V L C (sl0 (N + 11)) DO (.map []) c wr :=
  ⟨h.q, h.nn, by have := h.cc; omega, h.c0, by rw [h.l0, hl], h.c3, by rw [h.l3, List.length_map, List.length_take]; omega, h.v4.2.1, Num.empty, ⟨_, _, rfl⟩, h.bel⟩

/-- the state is laid; the groups are G -/
def E4 (N : Nat) (w : World) (dl : List (List UInt8)) (hs : List Nat) (ul : List (List UInt8)) (G : Nat → List Nat) (wr : World) : Prop :=
  ∃ (V : Nat → Value) (L : Nat → Nat) (C : Nat → List Value) (ur : Value) (DO DU : DataW Unit) (F : Nat → Value) (c : Nat), Q N V L C ur DO DU G F c wr ∧ NN V L ∧ C 0 = dl.map encStr ∧ L 0 = dl.length ∧ C 3 = hC hs ∧ L 3 = hs.length ∧ Num DU ul ∧ Below N w wr

theorem D4.fin {N : Nat} {w wr : World} {dl ul : List (List UInt8)} {hs : List Nat} {pl : List (Nat × Nat)} {n2 n1 m : Nat} {V : Nat → Value} {L : Nat → Nat} {C : Nat → List Value} {ur : Value} {DO DU : DataW Unit} {F : Nat → Value} {c : Nat}
    (h : D4 N w dl hs ul pl n2 n1 m V L C ur DO DU F c wr) : E4 N w dl hs ul (gp (pl.take m) n2 n1) wr :=
  ⟨V, L, C, ur, DO, DU, F, c, h.q, h.nn, h.c0, h.l0, h.c3, h.l3, h.num, h.bel⟩
theorem E4.alloc {N : Nat} {w wr : World} {dl ul : List (List UInt8)} {hs : List Nat} {G : Nat → List Nat} (h : E4 N w dl hs ul G wr) (o : Obj) : E4 N w dl hs ul G (wr.alloc o) := by
  obtain ⟨V, L, C, ur, DO, DU, F, c, q, r⟩ := h
  exact ⟨V, L, C, ur, DO, DU, F, c, q.alloc o, r.1, r.2.1, r.2.2.1, r.2.2.2.1, r.2.2.2.2.1, r.2.2.2.2.2.1, r.2.2.2.2.2.2.alloc (by have := q.sz; omega) o⟩

/-- the domains that the law's own loop gathers -/
def rawL (dl : List (List UInt8)) (zl : List Nat) (pl : List (Nat × Nat)) (n0 n2 nh ui : Nat) : List (List UInt8) :=
  (pl.filter (fun p => p.1 % n2 = ui)).map (fun p => dl.getD (zl.getD (p.2 % nh) 0 % n0) [])
theorem rawL_eq {dl : List (List UInt8)} {zl : List Nat} {pl : List (Nat × Nat)} {n0 n2 nh ui x y : Nat} (h : x % n2 = ui) : rawL dl zl (pl ++ [(x, y)]) n0 n2 nh ui = rawL dl zl pl n0 n2 nh ui ++ [dl.getD (zl.getD (y % nh) 0 % n0) []] := by
  simp [rawL, h]
theorem rawL_ne {dl : List (List UInt8)} {zl : List Nat} {pl : List (Nat × Nat)} {n0 n2 nh ui x y : Nat} (h : ¬ x % n2 = ui) : rawL dl zl (pl ++ [(x, y)]) n0 n2 nh ui = rawL dl zl pl n0 n2 nh ui := by
  simp [rawL, h]
theorem rawL_length (dl : List (List UInt8)) (zl : List Nat) (pl : List (Nat × Nat)) (n0 n2 nh ui : Nat) : (rawL dl zl pl n0 n2 nh ui).length ≤ pl.length := by
  unfold rawL
  rw [List.length_map]
  exact List.length_filter_le _ _

theorem raw_is (dl : List (List UInt8)) (zl : List Nat) (pl : List (Nat × Nat)) (n0 n2 nh u : Nat) (hn : 0 < nh) (hz : nh ≤ zl.length) : orgsG dl ((zl.take nh).map (· % n0)) (gp pl n2 nh u) = rawL dl zl pl n0 n2 nh u := by
  unfold orgsG gp rawL
  rw [List.map_map]
  apply List.map_congr_left
  intro p _
  have hlt : p.2 % nh < nh := Nat.mod_lt _ hn
  show dl.getD (((zl.take nh).map (· % n0)).getD (p.2 % nh) 0) [] = _
  have e1 : ((zl.take nh).map (· % n0)).getD (p.2 % nh) 0 = zl.getD (p.2 % nh) 0 % n0 := by
    rw [List.getD_eq_getElem?_getD, List.getD_eq_getElem?_getD, List.getElem?_map, List.getElem?_take_of_lt hlt, List.getElem?_eq_getElem (by omega)]
    rfl
  rw [e1]

/-- what orgsOf is to give -/
def XS (dl : List (List UInt8)) (hs : List Nat) (ul : List (List UInt8)) (G : Nat → List Nat) (us : List UInt8) : List (List UInt8) := if us ∈ ul then orgsG dl hs (G (ix us ul)) else []
theorem XS_yes {dl ul : List (List UInt8)} {zl : List Nat} {pl pe : List (Nat × Nat)} {n0 n2 nh : Nat} {us : List UInt8} (hz : nh ≤ zl.length) (hl : ul.length = n2) (h1 : 0 < n2 → 0 < nh → pe = pl) (h : us ∈ ul ∧ 0 < nh) :
    XS dl ((zl.take nh).map (· % n0)) ul (gp pe n2 nh) us = rawL dl zl pl n0 n2 nh (ix us ul) := by
  unfold XS
  rw [if_pos h.1, raw_is _ _ _ _ _ _ _ h.2 hz, h1 (by have := ix_lt h.1; omega) h.2]
theorem XS_no {dl ul : List (List UInt8)} {hs : List Nat} {pe : List (Nat × Nat)} {n2 nh : Nat} {us : List UInt8} (h2 : n2 = 0 ∨ nh = 0 → pe = []) (h : ¬ (us ∈ ul ∧ 0 < nh)) :
    XS dl hs ul (gp pe n2 nh) us = [] := by
  unfold XS
  by_cases hin : us ∈ ul
  · rw [if_pos hin, h2 (.inr (by have : ¬ 0 < nh := fun e => h ⟨hin, e⟩; omega))]
    rfl
  · rw [if_neg hin]

theorem ix_first {us : List UInt8} {ul : List (List UInt8)} {j : Nat} (hj : ul[j]? = some us) (hb : ∀ t y, t < j → ul[t]? = some y → y ≠ us) : us ∈ ul ∧ ix us ul = j := by
  have hm : us ∈ ul := List.mem_of_getElem? hj
  refine ⟨hm, ?_⟩
  obtain ⟨e1, e2⟩ := ix_get hm
  by_cases h1 : j < ix us ul
  · exact absurd hj (e2 j h1)
  · by_cases h2 : ix us ul < j
    · exact absurd rfl (hb _ _ h2 e1)
    · omega

theorem texts_of_row {w : World} {B : Nat} {v : Value} {n : Nat} {ss : List (List UInt8)} (h : w.ownsRow B 9 1 v n (ss.map encStr)) : ∃ a c, v = .slice a n c ∧ Texts w a n ss := by
  have hlen : ss.length = n := by have := h.1; simpa using this
  have hlt := h.lt
  have h' := h
  rcases h.2 with ⟨rfl, rfl⟩ | ⟨g, cap, cur, rfl, r⟩
  · exact ⟨none, 0, rfl, hlen, fun ad e => (by cases e), .inl ⟨rfl, rfl⟩⟩
  · refine ⟨some ⟨g, 0, none⟩, cap, rfl, hlen, fun ad e => ?_, .inr ⟨⟨g, 0, none⟩, rfl, fun i s hs => ?_⟩⟩
    · cases e; exact (hlt g rfl).2
    · exact h'.cells (g := g) rfl i (encStr s) (by simp [hs])

/-- behind orgsOf -/
structure G5 (N : Nat) (w : World) (g cap : Nat) (xs : List (List UInt8)) (wx : World) : Prop where
  row : wx.ownsRow 0 9 1 (.slice (some ⟨g, 0, none⟩) (su xs).length cap) (su xs).length ((su xs).map encStr)
  bel : Below N w wx
  sz : N ≤ wx.heap.size

theorem G5.keep {N : Nat} {w wx wy : World} {g cap : Nat} {xs : List (List UInt8)} (h : G5 N w g cap xs wx) (hb : Below wx.heap.size wx wy) : G5 N w g cap xs wy := by
  have hk : Ch wx wy (fun k => wx.heap.size ≤ k) := ⟨hb.os, hb.tape, hb.output, hb.size, fun k hk hx => hb.block k hk⟩
  refine ⟨own_ch h.row hk (fun q hq hx => ?_), h.bel.trans (hb.mono h.sz), Nat.le_trans h.sz hb.size⟩
  have := (h.row.lt q hq).2
  have hx' : wx.heap.size ≤ q := hx
  omega

end Go.Proofs.Ybulkbglm
