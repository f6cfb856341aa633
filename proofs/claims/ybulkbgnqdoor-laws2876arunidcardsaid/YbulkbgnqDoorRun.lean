/-
  LawS2876ARunID: the walk.
-/
import Derived.Test.YbulkbgnqDoorModel
import Derived.Lib.AppendStr
import Derived.Laws.AppendOwn
import Derived.OwnWalk
import Derived.Laws.IdiomStrings
import Derived.Deep.LoopGhost
import Derived.Laws.Bits64b
namespace Go.Proofs.YbulkbgnqDoor
open Go Go.RowKit
set_option linter.unusedSimpArgs false
set_option linter.unusedVariables false

/-- the cells of a list of bytes -/
def cellsOf (l : List UInt8) : List Value := l.map fun b => Value.int .u8 b.toNat

theorem Ybad.info5 : (Ybad.prog.info? 5).map (fun i => (i.zero, i.size, i.bytes)) = some (some (.int .u8 0), 1, 1) := by kernel_rfl

/-- the row of bytes that the call builds -/
structure R4 (w : World) (n g cap : Nat) (l : List UInt8) (wr : World) : Prop where
  len : l.length = n
  lo : w.heap.size ≤ g
  row : wr.ownsRow w.heap.size 5 1 (.slice (some ⟨g, 0, none⟩) n cap) n (cellsOf l)
  bel : Below w.heap.size w wr

theorem row_open {w : World} {B n : Nat} {v : Value} {xs : List Value} (h : w.ownsRow B 5 1 v n xs) (hn : v ≠ .slice none 0 0) :
    ∃ g cap, v = .slice (some ⟨g, 0, none⟩) n cap ∧ B ≤ g := by
  obtain ⟨-, ⟨rfl, -⟩ | ⟨g, cap, cur, rfl, hg, -⟩⟩ := h
  · exact absurd rfl hn
  · exact ⟨g, cap, rfl, hg⟩

section
variable {P : Program} {w : World}
theorem wpList_byte {ops : Array Oper} {rest : List Oper} {o : Oper} {a : Act} {Q : Exit → Act → World → Prop} (hgd : o.guard = none) (s x : Operand) (t : TypeId)
    (ho : o.op = .call { callee := .builtin .append, args := #[s, x], argTypes := #[t, t] })
    (i : TypeInfo) (ht : P.underlying t = some (.slice 5)) (hi : P.info? 5 = some i) (hz : i.zero = some (.int .u8 0)) (hsize : i.size = 1) (hby : i.bytes = 1)
    {n g cap : Nat} {l : List UInt8} {wr : World} (hR : R4 w n g cap l wr) (hn : n ≤ 8192) (c : UInt8) (X : Int) (hX : X = c.toNat)
    (hs : a.eval s = .slice (some ⟨g, 0, none⟩) n cap) (cx : Nat) (hx : a.eval x = .slice (some ⟨wr.heap.size, 0, none⟩) 1 cx)
    (h : ∀ g' cap' w', R4 w (n + 1) g' cap' (l ++ [c]) w' → wpList P ops Q rest (a.put o.dst (.slice (some ⟨g', 0, none⟩) (n + 1) cap')) w') :
    wpList P ops Q (o :: rest) a (wr.alloc (.cells #[.int .u8 X] 5)) := by
  subst hX
  refine wpList_append_own _ hgd s x t ho w.heap.size 5 i _ 1 1 ht hi hz hsize hby rfl (by decide) _ n _ hs (hR.row.alloc _) ⟨wr.heap.size, 0, none⟩ 1 cx [.int .u8 (c.toNat : Int)] hx rfl ?_ ?_ (by unfold maxLen; omega) (by omega) ?_ ?_
  · intro j u hj
    match j, hj with
    | 0, hj =>
      simp at hj
      subst hj
      have e1 : (wr.alloc (.cells #[.int .u8 (c.toNat : Int)] 5)).heap[wr.heap.size]? = some (.cells #[.int .u8 (c.toNat : Int)] 5 (0, 0)) := heap_alloc_new _ _
      have e2 : ((⟨wr.heap.size, 0, none⟩ : Addr).add 0) = ⟨wr.heap.size, 0, none⟩ := rfl
      rw [e2]
      unfold World.cell?
      rw [e1]
      rfl
  · intro u hu; simp at hu; subst hu; rfl
  · have := hR.bel.size; simp; omega
  · intro v' w' hrow hgb hnil
    obtain ⟨g', cap', rfl, hg'⟩ := row_open hrow (by intro hh; exact absurd (hnil.1 hh).1 (by simp))
    refine h g' cap' w' ⟨by simp [hR.len], hg', ?_, ?_⟩
    · have e : cellsOf (l ++ [c]) = cellsOf l ++ [.int .u8 (c.toNat : Int)] := by simp [cellsOf]
      rw [e]; exact hrow
    · refine (hR.bel.alloc hR.bel.size _).grown hgb (by have := hR.bel.size; simp; omega) ?_
      intro k hk
      simp [Value.ownBlock] at hk
      rw [← hk]; exact hR.lo
end

theorem and15 {num : Int} (h0 : 0 ≤ num) (h1 : num < 18446744073709551616) (k : Nat) : 0 ≤ bits .and .u64 (num / 2 ^ k) 15 ∧ bits .and .u64 (num / 2 ^ k) 15 ≤ 15 := by
  have hp : (0 : Int) ≤ 2 ^ k := Int.pow_nonneg (by decide)
  have e0 : 0 ≤ num / 2 ^ k := Int.ediv_nonneg h0 hp
  have e1 : num / 2 ^ k ≤ num := Int.ediv_le_self _ h0
  obtain ⟨a, ha⟩ : ∃ a : Nat, num / 2 ^ k = (a : Int) := ⟨(num / 2 ^ k).toNat, by omega⟩
  rw [ha]
  have hb := bits_and_u64_nat a 15 (by omega) (by decide)
  have hr : a &&& 15 ≤ 15 := Nat.and_le_right
  have e15 : ((15 : Nat) : Int) = 15 := rfl
  rw [e15] at hb
  rw [hb]
  omega

theorem up_hex (d : Int) (h0 : 0 ≤ d) (h1 : d ≤ 15) (hk : d.toNat < (ByteArray.mk #[48, 49, 50, 51, 52, 53, 54, 55, 56, 57, 65, 66, 67, 68, 69, 70]).size) :
    hexB ((ByteArray.mk #[48, 49, 50, 51, 52, 53, 54, 55, 56, 57, 65, 66, 67, 68, 69, 70])[d.toNat]'hk) = true := by
  have hall : ∀ k : Fin 16, hexB (((#[48, 49, 50, 51, 52, 53, 54, 55, 56, 57, 65, 66, 67, 68, 69, 70] : Array UInt8)[k.1]'k.2)) = true := by decide
  exact hall ⟨d.toNat, hk⟩

theorem lo_hex (d : Int) (h0 : 0 ≤ d) (h1 : d ≤ 15) (hk : d.toNat < (ByteArray.mk #[48, 49, 50, 51, 52, 53, 54, 55, 56, 57, 97, 98, 99, 100, 101, 102]).size) :
    hexB ((ByteArray.mk #[48, 49, 50, 51, 52, 53, 54, 55, 56, 57, 97, 98, 99, 100, 101, 102])[d.toNat]'hk) = true := by
  have hall : ∀ k : Fin 16, hexB (((#[48, 49, 50, 51, 52, 53, 54, 55, 56, 57, 97, 98, 99, 100, 101, 102] : Array UInt8)[k.1]'k.2)) = true := by decide
  exact hall ⟨d.toNat, hk⟩

theorem hex_step {w wr w' : World} {m : ByteArray} {n i g cap g' cap' : Nat} {ds : List UInt8} {c : UInt8} (h : ds.length = i ∧ allHex ds = true ∧ R4 w (n + i) g cap (m.data.toList ++ 35 :: ds) wr)
    (hR : R4 w (n + i + 1) g' cap' (m.data.toList ++ 35 :: (ds ++ [c])) w') (hc : hexB c = true) :
    (ds ++ [c]).length = i + 1 ∧ allHex (ds ++ [c]) = true ∧ R4 w (n + (i + 1)) g' cap' (m.data.toList ++ 35 :: (ds ++ [c])) w' := by
  obtain ⟨h1, h2, -⟩ := h
  refine ⟨by simp [h1], ?_, ?_⟩
  · unfold allHex at h2 ⊢; rw [List.all_append, h2]; simp [hc]
  · exact hR

theorem add0 (g j : Nat) : ((⟨g, 0, none⟩ : Addr).add j) = ⟨g, j, none⟩ := by unfold Addr.add; split <;> simp_all

theorem frozen_block {w : World} {C t i : Nat} {A : Array Value} (h : w.heap[C]? = some (.cells A t (0, 0))) : w.frozen? ⟨C, i, none⟩ = false := by
  simp [World.frozen?, h]

theorem set_block {w : World} {C t i : Nat} {A : Array Value} {fr : Nat × Nat} {v : Value} (h : w.heap[C]? = some (.cells A t fr)) : (w.setCell ⟨C, i, none⟩ v).heap[C]? = some (.cells (A.setIfInBounds i v) t fr) := by
  have hlt := (Array.getElem?_eq_some_iff.1 h).1
  have h' : w.heap[C] = .cells A t fr := by simpa [Array.getElem?_eq_getElem hlt] using h
  show (w.heap.modify C _)[C]? = _
  rw [Array.getElem?_eq_getElem (by simpa using hlt), Array.getElem_modify_self, h']
  rfl

theorem R4.block {w wr : World} {n g cap : Nat} {l : List UInt8} (h : R4 w n g cap l wr) : ∃ cur, wr.heap[g]? = some (.cells cur 5 (0, 0)) := by
  rcases h.row.2 with ⟨h0, _⟩ | ⟨g', cap', cur, hv, _, hg, _⟩
  · cases h0
  · injection hv with h1 h2 h3
    injection h1 with h1
    injection h1 with h1
    subst h1
    exact ⟨cur, hg⟩

theorem R4.cell {w wr : World} {n g cap : Nat} {l : List UInt8} (h : R4 w n g cap l wr) (j : Nat) (hj : j < l.length) : wr.cell? ⟨g, j, none⟩ = some (.int .u8 (l[j].toNat : Int)) := by
  have := h.row.cells (g := g) rfl j (.int .u8 (l[j].toNat : Int)) (by simp [cellsOf, List.getElem?_eq_getElem hj])
  rw [add0] at this
  exact this

theorem R4.set {w wr : World} {n g cap : Nat} {l : List UInt8} (h : R4 w n g cap l wr) (j : Nat) (hj : j < n) (c : UInt8) : R4 w n g cap (l.set j c) (wr.setCell ⟨g, j, none⟩ (.int .u8 (c.toNat : Int))) := by
  refine ⟨by simpa using h.len, h.lo, ?_, h.bel.setCell (p := ⟨g, j, none⟩) h.lo _⟩
  rcases h.row.2 with ⟨h0, _⟩ | ⟨g', cap', cur, hv, hb, hg, hle, hm, hcs, htk⟩
  · cases h0
  · injection hv with h1 h2 h3
    injection h1 with h1
    injection h1 with h1
    subst h1
    subst h3
    refine ⟨by simpa [cellsOf] using h.len, .inr ⟨_, _, _, rfl, hb, set_block hg, hle, hm, by simpa using hcs, ?_⟩⟩
    have e : cellsOf (l.set j c) = (cellsOf l).set j (.int .u8 (c.toNat : Int)) := by simp [cellsOf, List.map_set]
    rw [e, ← htk]
    simp only [Array.toList_setIfInBounds]
    rw [List.take_set]

/-- 'string(b)' -/
theorem R4.str {w wr : World} {n g cap : Nat} {l : List UInt8} (h : R4 w n g cap l wr) : (convert 28 9 (.slice (some ⟨g, 0, none⟩) n cap)).run Ybad.prog wr = .ok (.string ⟨l.toArray⟩) wr := by
  have := run_convert_bytes_back (P := Ybad.prog) wr 28 9 5 ⟨g, 0, none⟩ cap l Ybad.underlying28 Ybad.underlying5 Ybad.underlying9 (fun j hj => by rw [add0]; exact h.cell j hj)
  rw [h.len] at this
  exact this

theorem size_mk (l : List UInt8) : (ByteArray.mk l.toArray).size = l.length := by
  rw [Lib.size_eq]

theorem member_good {m : ByteArray} {ds : List UInt8} (hd : ds.length = 16) (hx : allHex ds = true) : memberOf ⟨(m.data.toList ++ 35 :: ds).toArray⟩ = m := by
  have hl : m.data.toList.length = m.size := (Lib.size_eq m).symm
  have hs : (ByteArray.mk (m.data.toList ++ 35 :: ds).toArray).size = m.size + 17 := by
    rw [size_mk]; simp [hd, hl]
  rw [memberOf_good (s := ⟨(m.data.toList ++ 35 :: ds).toArray⟩) (by omega) ?_ ?_]
  · apply ByteArray.ext
    apply Array.toList_inj.1
    rw [ext_toList, hs, show m.size + 17 - 16 - 1 = m.data.toList.length by omega, List.drop_zero]
    exact List.take_left' rfl
  · have : (ByteArray.mk (m.data.toList ++ 35 :: ds).toArray).size - 16 - 1 = m.data.toList.length := by omega
    simp only [this]
    show (((m.data.toList ++ 35 :: ds).toArray)[m.data.toList.length]'_).toNat = 35
    simp
  · rw [tail16, hs]
    show allHex ((m.data.toList ++ 35 :: ds).drop _) = true
    rw [show m.data.toList ++ 35 :: ds = (m.data.toList ++ [35]) ++ ds by simp, show m.size + 17 - 16 = (m.data.toList ++ [35]).length by simp [hl]]
    rw [List.drop_left' rfl]
    exact hx

theorem member_bad {m : ByteArray} {ds : List UInt8} {p : Nat} {q : UInt8} (hd : ds.length = 16) (hp : p < 16) (hq : hexB q = false) :
    memberOf ⟨((m.data.toList ++ 35 :: ds).set (m.size + 1 + p) q).toArray⟩ = ⟨((m.data.toList ++ 35 :: ds).set (m.size + 1 + p) q).toArray⟩ := by
  have hl : m.data.toList.length = m.size := (Lib.size_eq m).symm
  have hs : (ByteArray.mk ((m.data.toList ++ 35 :: ds).set (m.size + 1 + p) q).toArray).size = m.size + 17 := by
    rw [size_mk]; simp [hd, hl]
  refine memberOf_bad ?_
  rw [tail16, hs]
  show List.all (((m.data.toList ++ 35 :: ds).set (m.size + 1 + p) q).drop _) hexB = false
  rw [Bool.eq_false_iff]
  intro hall
  have hm : q ∈ ((m.data.toList ++ 35 :: ds).set (m.size + 1 + p) q).drop (m.size + 17 - 16) := by
    have : (((m.data.toList ++ 35 :: ds).set (m.size + 1 + p) q).drop (m.size + 17 - 16))[p]? = some q := by
      rw [List.getElem?_drop, show m.size + 17 - 16 + p = m.size + 1 + p by omega, List.getElem?_set_self (by simp [hd, hl]; omega)]
    exact List.mem_of_getElem? this
  have := List.all_eq_true.1 hall q hm
  rw [hq] at this
  cases this

theorem bads_hex (d : Int) (h0 : 0 ≤ d) (h1 : d < 10) (hk : d.toNat < (ByteArray.mk #[103, 35, 120, 122, 32, 45, 43, 95, 71, 46]).size) :
    hexB ((ByteArray.mk #[103, 35, 120, 122, 32, 45, 43, 95, 71, 46])[d.toNat]'hk) = false := by
  have hall : ∀ k : Fin 10, hexB (((#[103, 35, 120, 122, 32, 45, 43, 95, 71, 46] : Array UInt8)[k.1]'k.2)) = false := by decide
  exact hall ⟨d.toNat, hk⟩

set_option maxHeartbeats 16000000 in
set_option maxRecDepth 100000 in
theorem run4 (m : ByteArray) (num up : Int) (co : Bool) (pos bad : Int) (hu0 : 0 ≤ num) (hu1 : num < 18446744073709551616) (hp0 : 0 ≤ pos) (hp1 : pos < 256) (hb0 : 0 ≤ bad) (hb1 : bad < 256)
    (ev : Value) (w : World) (h0 : 0 < w.heap.size) (hv : w.cell? ⟨0, 0, none⟩ = some ev) (hev : ev = .nilIface ∨ ∃ te pe, ev = .iface te pe) :
    Calls Ybad.prog 4 #[.string m, .int .u64 num, .int .u16 up, .bool co, .int .u8 pos, .int .u8 bad] w fun e w' => e = .returned (.bool true) ∧ Below w.heap.size w w' := by
  by_cases hm : 4096 < m.size
  · go_enter Ybad.func4, Ybad.ntmps4
    go_wp2
    go_ret
    exact ⟨rfl, Below.refl _ _⟩
  · obtain ⟨i5, hi5, hz5, hs5, hb5⟩ := info_parts Ybad.info5
    go_enter Ybad.func4, Ybad.ntmps4
    go_wp2_with (at_make; refine wpList_make_own w rfl (.const (.int .i64 0)) (.tmp 25) 28 rfl w.heap.size 5 i5 _ 1 Ybad.underlying28 hi5 hz5 hs5 .i64 .i64 _ (m.size + 17) rfl rfl (by simp) (by rw [hb5]; omega) (by unfold maxLen; omega) (Nat.le_refl _) ?_)
    intro w1 hr1 hg1
    have hb1' : Below w.heap.size w w1 := (Below.refl _ w).grown hg1 (Nat.le_refl _) (by simp)
    go_wp2_with (at_builtin; refine Lib.wpList_append_own_string _ rfl (.tmp 27) (.tmp 28) 28 9 rfl w.heap.size 5 i5 Ybad.underlying28 Ybad.underlying9 hi5 hz5 hs5 hb5 _ 0 [] rfl hr1 m rfl (by unfold maxLen; omega) (by omega) hb1'.size ?_)
    intro v2 w2 hr2 hg2 hnil2
    obtain ⟨g2, cap2, rfl, hlo2⟩ := row_open hr2 (fun hh => hnil2 hh)
    have R2 : R4 w m.size g2 cap2 m.data.toList w2 := ⟨(Lib.size_eq m).symm, hlo2, hr2, hb1'.grown hg2 hb1'.size (by intro k hk; simp [Value.ownBlock] at hk; omega)⟩
    have HR := Lib.hid R2
    clear hr2 hg2 hnil2 R2 hr1 hg1
    go_wp2_with (at_builtin; refine wpList_byte rfl (.tmp 30) (.tmp 31) 28 rfl i5 Ybad.underlying28 hi5 hz5 hs5 hb5 HR.out (by omega) 35 35 rfl rfl 1 rfl ?_)
    intro g3 cap3 w3 R3
    have HR3 := Lib.hid R3
    clear HR R3
    go_wp2
    go_loopg [13, 14] 16 (fun k s13 s14 wr => ∃ (i g cap : Nat) (ds : List UInt8), i + k = 16 ∧ s14 = .int .i64 i ∧ s13 = .slice (some ⟨g, 0, none⟩) (m.size + 1 + i) cap ∧ Hid (ds.length = i ∧ allHex ds = true ∧ R4 w (m.size + 1 + i) g cap (m.data.toList ++ 35 :: ds) wr))
    case atStart => exact ⟨0, g3, cap3, [], rfl, rfl, by first | rfl | (congr 1; omega), rfl, rfl, HR3.out⟩
    case round =>
      obtain ⟨i, g, cap, ds, hik, rfl, rfl, hh⟩ := hrel
      clear HR3
      by_cases hlt : i < 16
      · obtain ⟨hd0, hd1⟩ := and15 hu0 hu1 (60 - 4 * i)
        go_wp2_with (at_builtin; refine wpList_byte rfl (.tmp 50) (.tmp 54) 28 rfl i5 Ybad.underlying28 hi5 hz5 hs5 hb5 hh.out.2.2 (by omega) _ _ rfl rfl 1 rfl ?_)
        all_goals (
          intro g' cap' w' R'
          have hcx := hex_step hh.out R'
          have FR := Lib.hid (hcx (by first | exact up_hex _ hd0 hd1 _ | exact lo_hex _ hd0 hd1 _))
          clear hcx
          clear R' hh
          go_wp2
          go_roundg (gk - 1)
          case measure => omega
          case rel => exact ⟨i + 1, g', cap', _, by omega, by go_num, rfl, FR.out⟩)
      · obtain rfl : i = 16 := by omega
        have hR := hh.out.2.2
        cases co with
        | false =>
          have hstr := hR.str
          have HM := Lib.hid (member5 ⟨(m.data.toList ++ 35 :: ds).toArray⟩ (by rw [size_mk, hR.len]; omega) ev wr (by have := hR.bel.size; omega) ((hR.bel.cell (p := ⟨0, 0, none⟩) h0).trans hv) hev)
          rw [member_good hh.out.1 hh.out.2.1] at HM
          have HB := Lib.hid hR.bel
          obtain ⟨S, hS⟩ : ∃ S : ByteArray, S = ⟨(m.data.toList ++ 35 :: ds).toArray⟩ := ⟨_, rfl⟩
          rw [← hS] at hstr HM
          clear hR hh hS
          go_wp2_with (go_at_call 5; refine HM.out.mono ?_; rintro e w' ⟨rfl, hbel⟩)
          go_ret
          exact ⟨rfl, HB.out.trans (hbel.mono HB.out.size)⟩
        | true =>
          obtain ⟨pn, hpn, hpl⟩ : ∃ pn : Nat, pos % 16 = (pn : Int) ∧ pn < 16 := ⟨(pos % 16).toNat, by omega, by omega⟩
          have hb10 : 0 ≤ bad % 10 := by omega
          have hb11 : bad % 10 < 10 := by omega
          have hbk : (bad % 10).toNat < (ByteArray.mk #[103, 35, 120, 122, 32, 45, 43, 95, 71, 46]).size := by
            show _ < 10
            omega
          obtain ⟨q, hq⟩ : ∃ q : UInt8, q = (ByteArray.mk #[103, 35, 120, 122, 32, 45, 43, 95, 71, 46])[(bad % 10).toNat]'hbk := ⟨_, rfl⟩
          have hqx : hexB q = false := by rw [hq]; exact bads_hex _ hb10 hb11 hbk
          obtain ⟨cur, hcur⟩ := hR.block
          have hlen : m.size + 1 + pn < (m.data.toList ++ 35 :: ds).length := by rw [hR.len]; omega
          have f1 := frozen_block (i := m.size + 1 + pn) hcur
          have c1 := hR.cell (m.size + 1 + pn) hlen
          have R' := hR.set (m.size + 1 + pn) (by omega) q
          have hto : ((m.size : Int) + 1 + (pn : Int)).toNat = m.size + 1 + pn := by omega
          subst hq
          have hstr := R'.str
          have HM := Lib.hid (member5 ⟨((m.data.toList ++ 35 :: ds).set (m.size + 1 + pn) ((ByteArray.mk #[103, 35, 120, 122, 32, 45, 43, 95, 71, 46])[(bad % 10).toNat]'hbk)).toArray⟩ (by rw [size_mk, R'.len]; omega) ev _ (by have := R'.bel.size; omega) ((R'.bel.cell (p := ⟨0, 0, none⟩) h0).trans hv) hev)
          rw [member_bad hh.out.1 hpl hqx] at HM
          have HB := Lib.hid R'.bel
          obtain ⟨S, hS⟩ : ∃ S : ByteArray, S = ⟨((m.data.toList ++ 35 :: ds).set (m.size + 1 + pn) ((ByteArray.mk #[103, 35, 120, 122, 32, 45, 43, 95, 71, 46])[(bad % 10).toNat]'hbk)).toArray⟩ := ⟨_, rfl⟩
          rw [← hS] at hstr HM
          clear hR hh hS R' hqx hcur
          go_wp2_with (go_at_call 5; refine HM.out.mono ?_; rintro e w' ⟨rfl, hbel⟩)
          go_ret
          exact ⟨rfl, HB.out.trans (hbel.mono HB.out.size)⟩

end Go.Proofs.YbulkbgnqDoor
