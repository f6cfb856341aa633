/-
  Laws at the walk's level: append onto a row whose block is told; append of elements without cells; a map's store inside a region that draws.
-/
import Derived.Test.YbulkbglmBase
import Derived.Maps.AppendAt
import Derived.Maps.OwnSet
import Derived.Maps.OwnOps
import Derived.Deep.RegionLaw
namespace Go.Proofs.Ybulkbglm
open Go Go.RowKit Go.Maps
set_option linter.unusedVariables false

section
variable {P : Program}

theorem run_app (w : World) (t ty e : TypeId) (i : TypeInfo) (z : Value) (size bytes : Nat) (ht : P.underlying t = some (.slice e)) (hi : P.info? e = some i) (hz : i.zero = some z)
    (hsize : i.size = size) (hby : i.bytes = bytes) (hzs : z.cells.size = size) (hsz : 0 < size)
    (b n cap : Nat) (xs : List Value) (hown : w.ownsRow 0 e size (.slice (some ⟨b, 0, none⟩) n cap) n xs)
    (a : Addr) (m c : Nat) (news : List Value) (hm : 0 < m) (hl : news.length = m * size) (hnews : ∀ j u, news[j]? = some u → w.cell? (a.add j) = some u) (h1 : ∀ u ∈ news, u.oneCell' = true)
    (h63 : n + m ≤ maxLen) (hbytes : (n + m) * bytes ≤ 140737488355328) :
    ∃ b' cap' w', (Builtin.append_ #[t, t] ty #[.slice (some ⟨b, 0, none⟩) n cap, .slice (some a) m c]).run P w = .ok (.slice (some ⟨b', 0, none⟩) (n + m) cap') w' ∧
      w'.ownsRow 0 e size (.slice (some ⟨b', 0, none⟩) (n + m) cap') (n + m) (xs ++ news) ∧ w.grownBy w' (some b) ∧ (b' = b ∨ b' = w.heap.size) := by
  obtain ⟨v', w', hr, h2, h3, h4, h5⟩ := run_append_own_at (P := P) w 0 t ty e i z size bytes ht hi hz hsize hby hzs hsz _ n xs hown a m c news hl hnews h1 h63 hbytes (Nat.zero_le _)
  rcases h2.2 with ⟨h, h0⟩ | ⟨g, cap', cur, rfl, r⟩
  · omega
  · refine ⟨g, cap', w', hr, h2, h3, ?_⟩
    simpa [Value.ownBlock] using h5

theorem wpList_app (w : World) {ops : Array Oper} {rest : List Oper} {o : Oper} {a : Act} {Q : Exit → Act → World → Prop} (hgd : o.guard = none) (s x : Operand) (t : TypeId)
    (ho : o.op = .call { callee := .builtin .append, args := #[s, x], argTypes := #[t, t] })
    (e : TypeId) (i : TypeInfo) (z : Value) (size bytes : Nat) (ht : P.underlying t = some (.slice e)) (hi : P.info? e = some i) (hz : i.zero = some z)
    (hsize : i.size = size) (hby : i.bytes = bytes) (hzs : z.cells.size = size) (hsz : 0 < size)
    (b n cap : Nat) (xs : List Value) (hs : a.eval s = .slice (some ⟨b, 0, none⟩) n cap) (hown : w.ownsRow 0 e size (.slice (some ⟨b, 0, none⟩) n cap) n xs)
    (ad : Addr) (m c : Nat) (news : List Value) (hm : 0 < m) (hx : a.eval x = .slice (some ad) m c) (hl : news.length = m * size) (hnews : ∀ j u, news[j]? = some u → w.cell? (ad.add j) = some u) (h1 : ∀ u ∈ news, u.oneCell' = true)
    (h63 : n + m ≤ maxLen) (hbytes : (n + m) * bytes ≤ 140737488355328)
    (h : ∀ b' cap' w', w'.ownsRow 0 e size (.slice (some ⟨b', 0, none⟩) (n + m) cap') (n + m) (xs ++ news) → w.grownBy w' (some b) → (b' = b ∨ b' = w.heap.size) → wpList P ops Q rest (a.put o.dst (.slice (some ⟨b', 0, none⟩) (n + m) cap')) w') :
    wpList P ops Q (o :: rest) a w := by
  refine wpList_plain hgd fun K hK => ?_
  obtain ⟨b', cap', w', hr, h2, h3, h5⟩ := run_app (P := P) w t o.type e i z size bytes ht hi hz hsize hby hzs hsz b n cap xs hown ad m c news hm hl hnews h1 h63 hbytes
  unfold Oper.wp execOp
  simp only [ho, resolve, invoke, builtin, Sem.run_bind, Sem.run_pure, Result.andThen_ok, List.map_toArray, List.map_cons, List.map_nil, hs, hx, hr]
  exact hK _ _ (h b' cap' w' h2 h3 h5)

theorem step_app {w : World} {ops : Array Oper} {o : Oper} {a : Act} {K : Act → World → Prop} {Q : Exit → Act → World → Prop} {E : Prop} (hgd : o.guard = none) (s x : Operand) (t : TypeId)
    (ho : o.op = .call { callee := .builtin .append, args := #[s, x], argTypes := #[t, t] })
    (e : TypeId) (i : TypeInfo) (z : Value) (size bytes : Nat) (ht : P.underlying t = some (.slice e)) (hi : P.info? e = some i) (hz : i.zero = some z)
    (hsize : i.size = size) (hby : i.bytes = bytes) (hzs : z.cells.size = size) (hsz : 0 < size)
    (b n cap : Nat) (xs : List Value) (hs : a.eval s = .slice (some ⟨b, 0, none⟩) n cap) (hown : w.ownsRow 0 e size (.slice (some ⟨b, 0, none⟩) n cap) n xs)
    (ad : Addr) (m c : Nat) (news : List Value) (hm : 0 < m) (hx : a.eval x = .slice (some ad) m c) (hl : news.length = m * size) (hnews : ∀ j u, news[j]? = some u → w.cell? (ad.add j) = some u) (h1 : ∀ u ∈ news, u.oneCell' = true)
    (h63 : n + m ≤ maxLen) (hbytes : (n + m) * bytes ≤ 140737488355328)
    (h : ∀ b' cap' w', w'.ownsRow 0 e size (.slice (some ⟨b', 0, none⟩) (n + m) cap') (n + m) (xs ++ news) → w.grownBy w' (some b) → (b' = b ∨ b' = w.heap.size) → K (a.put o.dst (.slice (some ⟨b', 0, none⟩) (n + m) cap')) w') :
    if Region.wanted o (yielded ops a.tmps) = true then Oper.wp P o a w K Q else E := by
  have hw : Region.wanted o (yielded ops a.tmps) = true := by simp [Region.wanted, hgd]
  rw [if_pos hw]
  obtain ⟨b', cap', w', hr, h2, h3, h5⟩ := run_app (P := P) w t o.type e i z size bytes ht hi hz hsize hby hzs hsz b n cap xs hown ad m c news hm hl hnews h1 h63 hbytes
  unfold Oper.wp execOp
  simp only [ho, resolve, invoke, builtin, Sem.run_bind, Sem.run_pure, Result.andThen_ok, List.map_toArray, List.map_cons, List.map_nil, hs, hx, hr]
  exact h b' cap' w' h2 h3 h5

/-- An append of elements without cells ('struct{}'): the length is known, nothing that was there turns. -/
theorem run_app0 (w : World) (t ty e : TypeId) (i : TypeInfo) (z : Value) (ht : P.underlying t = some (.slice e)) (hi : P.info? e = some i) (hz : i.zero = some z) (hsize : i.size = 0) (hby : i.bytes = 0) (hzs : z.cells = #[])
    (a : Addr) (n cap : Nat) (b : Addr) (m c : Nat) (h63 : n + m ≤ 1000000) :
    ∃ a' cap' w', (Builtin.append_ #[t, t] ty #[.slice (some a) n cap, .slice (some b) m c]).run P w = .ok (.slice (some a') (n + m) cap') w' ∧ w.grownBy w' none := by
  by_cases hr : n + m ≤ cap
  · refine ⟨a, cap, w, ?_, gb_refl _ _⟩
    simp [Builtin.append_, run_underlying ht, sizeOf, typeInfo, hi, hsize, Builtin.lenOf, hr, Builtin.firstCells, loadCells, loadCellsFrom, storeCells]
  · have h := run_append_grow (P := P) w t ty e i z ht hi hz a n cap [] (by simp [hsize]) (by simp) b m c [] (by simp [hsize]) (by simp) (by omega) (by omega) (by simp [hby])
    exact ⟨_, _, _, h, gb_alloc _ (gb_drew (gb_refl _ _))⟩

theorem wpList_app0 (w : World) {ops : Array Oper} {rest : List Oper} {o : Oper} {a : Act} {Q : Exit → Act → World → Prop} (hgd : o.guard = none) (s x : Operand) (t : TypeId)
    (ho : o.op = .call { callee := .builtin .append, args := #[s, x], argTypes := #[t, t] })
    (e : TypeId) (i : TypeInfo) (z : Value) (ht : P.underlying t = some (.slice e)) (hi : P.info? e = some i) (hz : i.zero = some z) (hsize : i.size = 0) (hby : i.bytes = 0) (hzs : z.cells = #[])
    (ad : Addr) (n cap : Nat) (b : Addr) (m c : Nat) (hs : a.eval s = .slice (some ad) n cap) (hx : a.eval x = .slice (some b) m c) (h63 : n + m ≤ 1000000)
    (h : ∀ a' cap' w', w.grownBy w' none → wpList P ops Q rest (a.put o.dst (.slice (some a') (n + m) cap')) w') :
    wpList P ops Q (o :: rest) a w := by
  refine wpList_plain hgd fun K hK => ?_
  obtain ⟨a', cap', w', hr, h2⟩ := run_app0 (P := P) w t o.type e i z ht hi hz hsize hby hzs ad n cap b m c h63
  unfold Oper.wp execOp
  simp only [ho, resolve, invoke, builtin, Sem.run_bind, Sem.run_pure, Result.andThen_ok, List.map_toArray, List.map_cons, List.map_nil, hs, hx, hr]
  exact hK _ _ (h a' cap' w' h2)

/-- 'm[k] = v' inside a region that draws. -/
theorem step_update {H : Type} {w : World} {ops : Array Oper} {o : Oper} {a : Act} {K' : Act → World → Prop} {Q : Exit → Act → World → Prop} {E : Prop}
    (hg : o.guard = none) (m x v : Operand) (t : TypeId) (hop : o.op = Op.mapUpdate t m x v)
    (k e : TypeId) (K : Keyed P k) (ht : P.underlying t = some (.map k e)) (R : Value → Option (DataW H × List MemPlace)) (b n : Nat) (D : DataW H)
    (hm : a.eval m = .map (some b)) (hown : w.ownsMap P k R b n D) (hn : n < maxLen) (key val : Value) (kl : Lit) (hx : a.eval x = key) (hv : a.eval v = val) (hkey : keyOf P k key = some kl)
    (d : DataW H) (ps : List MemPlace) (hval : R val = some (d, ps))
    (hK : ∀ w', w'.ownsMap P k R b (n + 1) (D.put kl d) → w.grownBy w' (some b) → K' (a.put o.dst undef) w') :
    if Region.wanted o (yielded ops a.tmps) = true then Oper.wp P o a w K' Q else E := by
  have hw : Region.wanted o (yielded ops a.tmps) = true := by simp [Region.wanted, hg]
  rw [if_pos hw]
  obtain ⟨w', hrun, r1, r2⟩ := hown.update K ht hn hkey hval
  unfold Oper.wp
  simp [execOp, hop, hm, hx, hv, hrun, Result.andThen]
  exact hK w' r1 r2

end
end Go.Proofs.Ybulkbglm
