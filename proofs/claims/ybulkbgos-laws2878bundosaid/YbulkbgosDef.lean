/-
  LawS2878BUndo: the names; define.
-/
import Derived.Test.YbulkbgosBase
import Derived.Deep.LoopGhost
import Derived.Deep.DeepCutAuto
import Derived.Deep.RegionLaw
namespace Go.Proofs.Ybulkbgos
open Go Go.RowKit Go.Maps Go.WideMaps
set_option linter.unusedSimpArgs false
set_option linter.unusedVariables false

theorem Yba.info43 : (Yba.prog.info? 43).map (fun i => (i.zero, i.size, i.bytes)) = some (some (.agg #[.string ⟨#[]⟩, .pointer none]), 2, 24) := by kernel_rfl
theorem law9 : Keyed Yba.prog 9 := string_keyed Yba.underlying9
theorem zero30 (w : World) : (zeroValue 30).run Yba.prog w = .ok (.pointer none) w := by kernel_rfl

set_option maxHeartbeats 4000000 in
theorem name5 (c : Int) (h0 : 0 ≤ c) (h1 : c < 256) (w : World) : Calls Yba.prog 5 #[.int .u8 c] w fun e w' => e = .returned (.string (nameB (c % 4).toNat)) ∧ w' = w := by
  have hc : c % 4 = 0 ∨ c % 4 = 1 ∨ c % 4 = 2 ∨ c % 4 = 3 := by omega
  rcases hc with h | h | h | h
  · have H := hid h
    go_enter Yba.func5, Yba.ntmps5
    go_wp2
    go_ret
    exact ⟨by rw [H.out]; rfl, rfl⟩
  · have H := hid h
    go_enter Yba.func5, Yba.ntmps5
    go_wp2
    go_ret
    exact ⟨by rw [H.out]; rfl, rfl⟩
  · have H := hid h
    go_enter Yba.func5, Yba.ntmps5
    go_wp2
    go_ret
    exact ⟨by rw [H.out]; rfl, rfl⟩
  · have H := hid h
    go_enter Yba.func5, Yba.ntmps5
    go_wp2
    go_ret
    exact ⟨by rw [H.out]; rfl, rfl⟩

section
variable {P : Program}
theorem step_own {w : World} {ops : Array Oper} {o : Oper} {a : Act} {K : Act → World → Prop} {Q : Exit → Act → World → Prop} {E : Prop} (hgd : o.guard = none) (s x : Operand) (t : TypeId)
    (ho : o.op = .call { callee := .builtin .append, args := #[s, x], argTypes := #[t, t] })
    (e : TypeId) (i : TypeInfo) (z : Value) (size bytes : Nat) (ht : P.underlying t = some (.slice e)) (hi : P.info? e = some i) (hz : i.zero = some z)
    (hsize : i.size = size) (hby : i.bytes = bytes) (hzs : z.cells.size = size) (hsz : 0 < size)
    (B n : Nat) (v : Value) (xs : List Value) (hs : a.eval s = v) (hown : w.ownsRow B e size v n xs)
    (ad : Addr) (m c : Nat) (news : List Value) (hm : 0 < m) (hx : a.eval x = .slice (some ad) m c) (hl : news.length = m * size) (hnews : ∀ j u, news[j]? = some u → w.cell? (ad.add j) = some u) (h1 : ∀ u ∈ news, u.oneCell' = true)
    (h63 : n + m ≤ maxLen) (hbytes : (n + m) * bytes ≤ 140737488355328) (hB : B ≤ w.heap.size)
    (h : ∀ b' cap' w', w'.ownsRow B e size (.slice (some ⟨b', 0, none⟩) (n + m) cap') (n + m) (xs ++ news) → w.grownBy w' v.ownBlock → (v.ownBlock = some b' ∨ b' = w.heap.size) → K (a.put o.dst (.slice (some ⟨b', 0, none⟩) (n + m) cap')) w') :
    if Region.wanted o (yielded ops a.tmps) = true then Oper.wp P o a w K Q else E := by
  have hw : Region.wanted o (yielded ops a.tmps) = true := by simp [Region.wanted, hgd]
  rw [if_pos hw]
  obtain ⟨v', w', hr, h2, h3, h4, h5⟩ := run_append_own_at (P := P) w B t o.type e i z size bytes ht hi hz hsize hby hzs hsz _ n xs hown ad m c news hl hnews h1 h63 hbytes hB
  rcases h2.2 with ⟨hh, h0⟩ | ⟨g, cap', cur, rfl, r⟩
  · omega
  · unfold Oper.wp execOp
    simp only [ho, resolve, invoke, builtin, Sem.run_bind, Sem.run_pure, Result.andThen_ok, List.map_toArray, List.map_cons, List.map_nil, hs, hx, hr]
    exact h g cap' w' h2 h3 (by simpa [Value.ownBlock, eq_comm] using h5)
end

section
variable {B pb mb : Nat} {U : List (Nat × Option Nat)} {f : Nat → Option Nat} {src uv : Value} {pos depth : Int} {w w' : World}

theorem S.look (h : S B pb mb U f src uv pos depth w) {j : Nat} (hj : j < 4) : (Instr.lookup 24 (.map (some mb)) (.string (nameB j)) false).run Yba.prog w = .ok (ptrV (f j)) w := by
  obtain ⟨D, hm, hD⟩ := h.map
  obtain ⟨v, ps, hr, hv⟩ := hm.lookup law9 Yba.underlying24 (zero30 w) (zd := .nil) (zp := []) rfl (keyOf_string_mk Yba.underlying9 (nameB_size j))
  rw [nameB_list, hD.look j hj] at hv
  rw [ptrR_inv hv] at hr
  exact hr

theorem S.lookOk (h : S B pb mb U f src uv pos depth w) {j : Nat} (hj : j < 4) : (Instr.lookup 24 (.map (some mb)) (.string (nameB j)) true).run Yba.prog w = .ok (.tuple #[ptrV (f j), .bool (f j).isSome]) w := by
  obtain ⟨D, hm, hD⟩ := h.map
  obtain ⟨v, ps, hr, hv⟩ := hm.look_ok law9 Yba.underlying24 (zero30 w) (zd := .nil) (zp := []) rfl (keyOf_string_mk Yba.underlying9 (nameB_size j))
  rw [nameB_list, hD.look j hj] at hv
  rw [nameB_list, hD.has j hj] at hr
  rw [ptrR_inv hv] at hr
  exact hr

theorem S.len (h : S B pb mb U f src uv pos depth w) (ty : TypeId) : (Builtin.len_ #[24] ty #[.map (some mb)]).run Yba.prog w = .ok (.int .i64 (cnt4 f)) w := by
  obtain ⟨D, hm, hD⟩ := h.map
  have := hm.len Yba.underlying24 ty
  rw [hD.size] at this
  exact this

theorem S.pbmb (h : S B pb mb U f src uv pos depth w) : pb ≠ mb := by
  obtain ⟨D, hm, -⟩ := h.map
  obtain ⟨es, c, hb⟩ := ownsMap_block hm
  exact ne_block h.blk hb (by intro e; cases e)

/-- 'm[name] = node' -/
theorem S.put (h : S B pb mb U f src uv pos depth w) {j : Nat} (hj : j < 4) (nb : Nat) : ∃ w', (Instr.mapUpdate 24 (.map (some mb)) (.string (nameB j)) (ptrV (some nb))).run Yba.prog w = .ok () w' ∧ S B pb mb U (upd f j (some nb)) src uv pos depth w' ∧ Ch w w' (Tch pb mb uv) := by
  obtain ⟨D, hm, hD⟩ := h.map
  obtain ⟨w', hr, ho, hg⟩ := hm.update law9 Yba.underlying24 (by unfold maxLen; omega) (keyOf_string_mk Yba.underlying9 (nameB_size j)) (ptrR_mk (some nb))
  have hc : Ch w w' (fun k => some mb = some k) := Ch.of_gb hg
  have hD' := hD.put hj nb
  refine ⟨w', hr, ?_, hc.mono (fun k hk => .inr (.inl (Option.some.inj hk).symm))⟩
  refine ⟨hc.at h.blk (fun e => h.pbmb (Option.some.inj e).symm), ⟨_, own4 ho (by rw [nameB_list, hD'.size]; exact cnt4_le _), by rw [nameB_list]; exact hD'⟩, ?_, h.lo, Nat.le_trans h.sz hc.size⟩
  refine h.row.kept hg ?_
  by_cases e : uv.ownBlock = some mb
  · obtain ⟨cur, hb⟩ := h.rowBlock e
    obtain ⟨es, c, hb'⟩ := ownsMap_block hm
    rw [hb] at hb'; cases hb'
  · exact .inr e

/-- 'delete(m, name)' -/
theorem S.del (h : S B pb mb U f src uv pos depth w) {j : Nat} (hj : j < 4) (ty : TypeId) : ∃ w', (Builtin.delete_ #[24, 9] ty #[.map (some mb), .string (nameB j)]).run Yba.prog w = .ok (.tuple #[]) w' ∧ S B pb mb U (upd f j none) src uv pos depth w' ∧ Ch w w' (Tch pb mb uv) := by
  obtain ⟨D, hm, hD⟩ := h.map
  obtain ⟨w', hr, ho, ht⟩ := hm.drop law9 Yba.underlying24 (keyOf_string_mk Yba.underlying9 (nameB_size j)) ty
  have hg := ht.grown
  have hc : Ch w w' (fun k => some mb = some k) := Ch.of_gb hg
  have hD' := hD.del hj
  refine ⟨w', hr, ?_, hc.mono (fun k hk => .inr (.inl (Option.some.inj hk).symm))⟩
  refine ⟨hc.at h.blk (fun e => h.pbmb (Option.some.inj e).symm), ⟨_, own4 ho (by rw [nameB_list, hD'.size]; exact cnt4_le _), by rw [nameB_list]; exact hD'⟩, ?_, h.lo, Nat.le_trans h.sz hc.size⟩
  refine h.row.kept hg ?_
  by_cases e : uv.ownBlock = some mb
  · obtain ⟨cur, hb⟩ := h.rowBlock e
    obtain ⟨es, c, hb'⟩ := ownsMap_block hm
    rw [hb] at hb'; cases hb'
  · exact .inr e

theorem S.own_ne (h : S B pb mb U f src uv pos depth w) {k : Nat} (hk : uv.ownBlock = some k) : Tch pb mb uv k ∧ k ≠ pb ∧ k ≠ mb := by
  obtain ⟨cur, hb⟩ := h.rowBlock hk
  obtain ⟨D, hm, -⟩ := h.map
  obtain ⟨es, c, hb'⟩ := ownsMap_block hm
  exact ⟨.inr (.inr hk), ne_block hb h.blk (by intro e; cases e), ne_block hb hb' (by intro e; cases e)⟩

/-- the parser's own block is written -/
theorem S.set (h : S B pb mb U f src uv pos depth w) {w2 : World} {X : Nat → Prop} (c : Ch w w2 X) (hX : ∀ k, X k → Tch pb mb uv k ∧ k ≠ pb ∧ k ≠ mb) {U' : List (Nat × Option Nat)} {uv' : Value} {pos' depth' : Int} (i : Nat) (v : Value)
    (hA : (pA src uv mb pos depth).setIfInBounds i v = pA src uv' mb pos' depth') (hrow : w2.ownsRow B 43 2 uv' U'.length (uC U')) :
    S B pb mb U' f src uv' pos' depth' (w2.setCell ⟨pb, i, none⟩ v) ∧ Ch w (w2.setCell ⟨pb, i, none⟩ v) (Tch pb mb uv) := by
  have hb2 := c.at h.blk (fun hx => (hX pb hx).2.1 rfl)
  obtain ⟨D, hm, hD⟩ := h.map
  obtain ⟨es, cl, hmb⟩ := ownsMap_block hm
  have hm2 := c.at hmb (fun hx => (hX mb hx).2.2 rfl)
  have hne : mb ≠ pb := fun e => h.pbmb e.symm
  refine ⟨⟨by rw [set_block hb2, hA], ⟨D, ?_, hD⟩, ?_, h.lo, ?_⟩, ?_⟩
  · refine ownsMap_eq hm ?_
    rw [Below.heap_setCell _ _ _ _ hne]
    exact hm2.trans hmb.symm
  · rcases hrow.2 with r | ⟨g, cap, cur, rfl, h0, hg, r⟩
    · exact ⟨hrow.1, .inl r⟩
    · refine ⟨hrow.1, .inr ⟨g, cap, cur, rfl, h0, ?_, r⟩⟩
      rw [Below.heap_setCell _ _ _ _ (ne_block hg hb2 (by intro e; cases e))]
      exact hg
  · have := c.size; have := h.sz; simp [World.setCell]; omega
  · exact (c.mono (fun k hk => (hX k hk).1)).set pb i v (.inl (.inl rfl))
end

set_option maxHeartbeats 8000000 in
set_option maxRecDepth 100000 in
theorem define4 {B pb mb : Nat} {U : List (Nat × Option Nat)} {f : Nat → Option Nat} {src uv : Value} {pos depth : Int} {w : World} (h : S B pb mb U f src uv pos depth w) {j : Nat} (hj : j < 4) (nb : Nat) (hU : U.length ≤ 4096) :
    Calls Yba.prog 4 #[.pointer (some ⟨pb, 0, none⟩), .string (nameB j), .pointer (some ⟨nb, 0, none⟩)] w fun e w' =>
      e = .returned (.tuple #[]) ∧ ∃ uv', S B pb mb (U ++ [(j, f j)]) (upd f j (some nb)) src uv' pos depth w' ∧ Ch w w' (Tch pb mb uv) ∧ (∀ k, Tch pb mb uv' k → Tch pb mb uv k ∨ w.heap.size ≤ k) := by
  obtain ⟨i43, hi, hz, hs, hb⟩ := info_parts Yba.info43
  have HS := hid h
  have c4 : w.cell? ⟨pb, 4, none⟩ = some (.map (some mb)) := cell_block h.blk rfl
  have c5 : w.cell? ⟨pb, 5, none⟩ = some uv := cell_block h.blk rfl
  have hl : (Instr.lookup 24 (.map (some mb)) (.string (nameB j)) false).run Yba.prog w.drew = .ok (ptrV (f j)) w.drew := (h.ch (Ch.refl w (fun _ => False)).drew (fun k hk => hk.elim)).look hj
  obtain ⟨px, hpv⟩ : ∃ px, ptrV (f j) = .pointer px := by cases f j <;> exact ⟨_, rfl⟩
  rw [hpv] at hl
  have HPV := hid hpv
  clear hpv
  have HI : Hid ((w.alloc (.cells #[.string (nameB j), .pointer px] 43)).drew.ownsRow B 43 2 uv U.length (uC U)) := h.row.alloc _
  have HW1 : Hid (∀ x u, ([.string (nameB j), .pointer px] : List Value)[x]? = some u → (w.alloc (.cells #[.string (nameB j), .pointer px] 43)).drew.cell? ((⟨w.heap.size, 0, none⟩ : Addr).add x) = some u) := by
    intro x u hx
    rw [add0]
    exact cell_block (C := #[.string (nameB j), .pointer px]) (t := 43) (fr := (0, 0)) (heap_alloc_new w _) (by simpa using hx)
  have hsz := h.sz
  have lt1 : pb < w.heap.size := lt_block h.blk
  clear h
  go_enter Yba.func4, Yba.ntmps4
  go_upto_region 0 with fail
  go_cut [] (fun wx => ∃ uv', S B pb mb (U ++ [(j, f j)]) f src uv' pos depth wx ∧ Ch w wx (Tch pb mb uv) ∧ ∀ k, uv'.ownBlock = some k → uv.ownBlock = some k ∨ w.heap.size ≤ k)
  case first =>
    go_region_law (refine step_own rfl (.tmp 10) (.tmp 19) 27 rfl 43 i43 _ 2 24 Yba.underlying27 hi hz hs hb rfl (by decide) B U.length uv (uC U) (by simp [Act.eval, Act.put]) HI.out ⟨w.heap.size, 0, none⟩ 1 1 [.string (nameB j), .pointer px] (by decide) (by simp [Act.eval, Act.put]) rfl HW1.out (by intro u hu; simp at hu; rcases hu with rfl | rfl <;> rfl) (by unfold maxLen; omega) (by omega) (by simp; omega) ?_; intro b' cap' w2 hown2 hgrow2 hloc; have hC2 : Ch w w2 (fun k => uv.ownBlock = some k) := (((Ch.refl w _).alloc _).drew).step (Ch.of_gb hgrow2); have hS2 := hC2.at HS.out.blk (fun e => (HS.out.own_ne e).2.1 rfl); have k5 := cell_block (i := 5) (v := uv) hS2 rfl; have f5 := frozen_block (i := 5) hS2)
    all_goals (
      go_wp2_with fail
      go_meet
      refine ⟨_, (HS.out.set hC2 (fun k hk => HS.out.own_ne hk) 5 _ rfl (by rw [uC_snoc, HPV.out, List.length_append]; exact hown2)).1, (HS.out.set hC2 (fun k hk => HS.out.own_ne hk) 5 _ rfl (by rw [uC_snoc, HPV.out, List.length_append]; exact hown2)).2, ?_⟩
      intro k hk
      have hk' : b' = k := by simpa [Value.ownBlock] using hk
      subst hk'
      rcases hloc with h1 | h1
      · exact .inl h1
      · right; simp at h1; omega)
  case rest =>
  clear HI HW1 HPV hl c4 c5
  obtain ⟨uv', hS1, hC1, hloc⟩ := hcut
  have k4 : wc.cell? ⟨pb, 4, none⟩ = some (.map (some mb)) := cell_block hS1.blk rfl
  obtain ⟨w3, hrun, hS3, hC3⟩ := hS1.put hj nb
  have HS3 := hid hS3
  have HC := hid hC1
  have HC3 := hid hC3
  have HT : Hid (∀ k, Tch pb mb uv' k → Tch pb mb uv k ∨ w.heap.size ≤ k) := by
    rintro k (rfl | rfl | hk)
    · exact .inl (.inl rfl)
    · exact .inl (.inr (.inl rfl))
    · exact (hloc k hk).elim (fun e => .inl (.inr (.inr e))) .inr
  have hrun' : (Instr.mapUpdate 24 (.map (some mb)) (.string (nameB j)) (.pointer (some ⟨nb, 0, none⟩))).run Yba.prog wc = .ok () w3 := hrun
  clear hS1 hC1 hS3 hC3 hrun hloc
  go_wp2
  go_end0
  exact ⟨rfl, uv', HS3.out, HC.out.trans (HC3.out.mono HT.out), HT.out⟩

end Go.Proofs.Ybulkbgos
