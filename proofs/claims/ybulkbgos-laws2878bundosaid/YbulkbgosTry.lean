/-
  LawS2878BUndo: try, with the closure that it defers.
-/
import Derived.Test.YbulkbgosRead
import Derived.Defers
import Derived.Recover
import Derived.Deep.RegionHeld3
namespace Go.Proofs.Ybulkbgos
open Go Go.RowKit Go.Maps Go.WideMaps
set_option linter.unusedSimpArgs false
set_option linter.unusedVariables false

theorem assert45 (W : World) (v : Value) : (Instr.typeAssert (.iface 45 v) 20 45 true).run Yba.prog W = .ok (.tuple #[v, .bool true]) W := by kernel_rfl

theorem frame9 (a b c d e x y : Value) : (#[a, b, c, d, e] ++ (((Array.replicate 24 undef).setIfInBounds 3 x).setIfInBounds 4 y).setIfInBounds 0 y : Array Value) = #[a, b, c, d, e, y, undef, undef, x, y, undef, undef, undef, undef, undef, undef, undef, undef, undef, undef, undef, undef, undef, undef, undef, undef, undef, undef, undef] := by kernel_rfl

set_option maxHeartbeats 4000000 in
theorem idle9 {ob p1 d1 vb nb : Nat} {w : World} (ho : w.heap[ob]? = some (.cells #[.bool true] 4 (0, 0))) :
    CallsD Yba.prog 9 #[.pointer (some ⟨ob, 0, none⟩), .pointer (some ⟨p1, 0, none⟩), .pointer (some ⟨d1, 0, none⟩), .pointer (some ⟨vb, 0, none⟩), .pointer (some ⟨nb, 0, none⟩)] .returning w fun e u' w' => e = .returned (.tuple #[]) ∧ u' = .returning ∧ w' = w := by
  have c0 : w.cell? ⟨ob, 0, none⟩ = some (.bool true) := cell_block ho rfl
  refine callsD_of_wpS Yba.func9 rfl fun c₀ cs hu => ?_
  apply wpS_seq
  apply wpS_seq
  apply wpS_region
  simp [wpOpsS, go_sem, recoverD, hu, Yba.ntmps9, Exit.thenS, c0]
  refine wpS_cond (t := true) (by simp [Act.eval]) ?_
  simp only [if_true]
  refine wpS_of_wp ?_
  go_wp2
  cases c₀
  simp_all [Exit.thenS, bodyPostS, results, Yba.results9]

set_option maxHeartbeats 8000000 in
set_option maxRecDepth 100000 in
theorem catch9 {B pb mb ob p1 d1 vb nb qb : Nat} {U0 L : List (Nat × Option Nat)} {f0 f : Nat → Option Nat} {src uv : Value} {pos depth pos0 depth0 : Int} {w : World}
    (hch : Chain f0 L f) (h : S B pb mb (U0 ++ L) f src uv pos depth w) (hU : (U0 ++ L).length ≤ 4096)
    (ho : w.heap[ob]? = some (.cells #[.bool false] 4 (0, 0))) (hp : w.heap[p1]? = some (.cells #[.int .i64 pos0] 3 (0, 0))) (hd : w.heap[d1]? = some (.cells #[.int .i64 depth0] 3 (0, 0)))
    (hv : w.heap[vb]? = some (.cells #[.pointer (some ⟨pb, 0, none⟩)] 23 (0, 0))) (hn : w.heap[nb]? = some (.cells #[.int .i64 (U0.length : Int)] 3 (0, 0))) :
    CallsD Yba.prog 9 #[.pointer (some ⟨ob, 0, none⟩), .pointer (some ⟨p1, 0, none⟩), .pointer (some ⟨d1, 0, none⟩), .pointer (some ⟨vb, 0, none⟩), .pointer (some ⟨nb, 0, none⟩)] (.panicking [{ v := .iface 45 (.pointer (some ⟨qb, 0, none⟩)), recovered := false }]) w
      fun e u' w' => e = .returned (.tuple #[]) ∧ u' = .panicking [{ v := .iface 45 (.pointer (some ⟨qb, 0, none⟩)), recovered := true }] ∧
        ∃ uv', S B pb mb U0 f0 src uv' pos0 depth0 w' ∧ Ch w w' (Tch pb mb uv) ∧ uv'.ownBlock = uv.ownBlock := by
  have c0 : w.cell? ⟨ob, 0, none⟩ = some (.bool false) := cell_block ho rfl
  have c1 : w.cell? ⟨p1, 0, none⟩ = some (.int .i64 pos0) := cell_block hp rfl
  have c2 : w.cell? ⟨d1, 0, none⟩ = some (.int .i64 depth0) := cell_block hd rfl
  have c3 : w.cell? ⟨vb, 0, none⟩ = some (.pointer (some ⟨pb, 0, none⟩)) := cell_block hv rfl
  have c4 : w.cell? ⟨nb, 0, none⟩ = some (.int .i64 (U0.length : Int)) := cell_block hn rfl
  have e1 : w.cell? ⟨pb, 1, none⟩ = some (.int .i64 pos) := cell_block h.blk rfl
  have e6 : w.cell? ⟨pb, 6, none⟩ = some (.int .i64 depth) := cell_block h.blk rfl
  have f1 := frozen_block (i := 1) h.blk
  have f6 := frozen_block (i := 6) h.blk
  have n1 : ¬ ob = pb := ne_block ho h.blk (cells_ne (by decide))
  have n2 : ¬ vb = pb := ne_block hv h.blk (cells_ne (by decide))
  have n3 : ¬ nb = pb := ne_block hn h.blk (cells_ne (by decide))
  have n4 : ¬ d1 = pb := ne_block hd h.blk (cells_ne (by decide))
  have n5 : ¬ p1 = pb := ne_block hp h.blk (cells_ne (by decide))
  obtain ⟨s1, k1⟩ := h.set (Ch.refl w (fun _ => False)) (fun q hq => hq.elim) (U' := U0 ++ L) (uv' := uv) (pos' := pos0) (depth' := depth) 1 (.int .i64 pos0) rfl h.row
  obtain ⟨s2, k2⟩ := s1.set (Ch.refl _ (fun _ => False)) (fun q hq => hq.elim) (U' := U0 ++ L) (uv' := uv) (pos' := pos0) (depth' := depth0) 6 (.int .i64 depth0) rfl s1.row
  have HF := hid (forget10 hch s2 hU)
  have HC := hid (k1.step k2)
  clear h s1 s2 k1 k2 hch
  refine callsD_of_wpS Yba.func9 rfl fun c₀ cs hu => ?_
  apply wpS_seq
  apply wpS_seq
  apply wpS_region
  simp [wpOpsS, go_sem, recoverD, hu, Yba.ntmps9, Exit.thenS, c0]
  refine wpS_cond (t := false) (by simp [Act.eval]) ?_
  simp only [Bool.false_eq_true, if_false]
  refine wpS_of_wp (wp_skip ?_)
  simp only [Exit.thenS]
  apply wpS_seq
  apply wpS_region
  simp [wpOpsS, go_sem, recoverD, hu, Exit.thenS]
  refine wpS_of_wp ?_
  rw [frame9]
  have hta := fun W => assert45 W (.pointer (some ⟨qb, 0, none⟩))
  go_wp2_with (go_at_call 10; refine HF.out.mono ?_; rintro e w' ⟨rfl, hE⟩)
  obtain ⟨uv', h1, h2, h3⟩ := hE
  exact ⟨rfl, _, rfl, .tuple #[], by simp [results, Yba.results9], rfl, rfl, uv', h1, HC.out.step h2, h3⟩

theorem three_at (w : World) (o1 o2 o3 : Obj) : (((w.alloc o1).alloc o2).alloc o3).drew.heap[w.heap.size]? = some o1 ∧ (((w.alloc o1).alloc o2).alloc o3).drew.heap[w.heap.size + 1]? = some o2 ∧ (((w.alloc o1).alloc o2).alloc o3).drew.heap[w.heap.size + 1 + 1]? = some o3 := by
  refine ⟨alloc_block (alloc_block (heap_alloc_new w o1)), ?_, ?_⟩
  · have h := alloc_block (o := o3) (heap_alloc_new (w.alloc o1) o2)
    have e : (w.alloc o1).heap.size = w.heap.size + 1 := by simp
    rw [e] at h
    exact h
  · have h := heap_alloc_new ((w.alloc o1).alloc o2) o3
    have e : ((w.alloc o1).alloc o2).heap.size = w.heap.size + 1 + 1 := by simp
    rw [e] at h
    exact h

theorem keep_alloc {a : World} {p : Addr} {v : Value} (o : Obj) (h : a.cell? p = some v) : (a.alloc o).cell? p = some v := ((Ch.refl a (fun _ => False)).alloc o).cell h id
theorem keep_drew {a : World} {p : Addr} {v : Value} (h : a.cell? p = some v) : a.drew.cell? p = some v := h
theorem keep_set {a : World} {p : Addr} {v : Value} (q i : Nat) (u : Value) (hne : ¬ p.block = q) (h : a.cell? p = some v) : (a.setCell ⟨q, i, none⟩ u).cell? p = some v := ((Ch.refl a (· = q)).set q i u (.inl rfl)).cell h hne

section
variable {B pb mb ab cb k : Nat} {U : List (Nat × Option Nat)} {f : Nat → Option Nat} {src uv : Value} {pos depth : Int} {w w1 w' : World}
theorem RPost.from (c : Ch w w1 (fun _ => False)) (h : RPost B pb mb ab cb U f src uv pos depth k w1 w') : RPost B pb mb ab cb U f src uv pos depth k w w' := by
  obtain ⟨L, f', uv', h1, h2, h3, h4, h5, h6, h7⟩ := h
  exact ⟨L, f', uv', h1, h2, h3, h4, h5, (c.mono (fun q hq => hq.elim)).step h6, fun q hq => (h7 q hq).imp id (fun h => Nat.le_trans c.size h)⟩
/-- A block of the closure's or of the parser's lay there at the start. -/
theorem S.rch_lt (h : S B pb mb U f src uv pos depth w) (ha : ab < w.heap.size) (hc : cb < w.heap.size) : ∀ q, Rch pb mb uv ab cb q → q < w.heap.size := by
  rintro q ((rfl | rfl | hk) | rfl | rfl)
  · exact lt_block h.blk
  · obtain ⟨D, hm, -⟩ := h.map
    exact lt_block (ownsMap_block hm).choose_spec.choose_spec
  · exact (h.row.lt q hk).2
  · exact ha
  · exact hc
theorem RPost.other {q t : Nat} {A : Array Value} (h : RPost B pb mb ab cb U f src uv pos depth k w w') (hq : w'.heap[q]? = some (.cells A t (0, 0))) (h29 : t ≠ 29) (h43 : t ≠ 43) (h31 : t ≠ 31) (h3 : t ≠ 3) (hw : w.heap.size ≤ q) (i : Nat) (v : Value) : RPost B pb mb ab cb U f src uv pos depth k w (w'.setCell ⟨q, i, none⟩ v) := by
  obtain ⟨L, f', uv', h1, h2, hS, h4, h5, h6, h7⟩ := h
  have hc : Ch w' (w'.setCell ⟨q, i, none⟩ v) (· = q) := (Ch.refl w' _).set q i v (.inl rfl)
  refine ⟨L, f', uv', h1, h2, hS.ch hc (fun x hx ht => by rw [hx] at ht; exact hS.notTch hq h29 h43 ht), hc.at h4 (ne_block h4 hq (cells_ne (fun e => h31 e.symm))), hc.at h5 (ne_block h5 hq (cells_ne (fun e => h3 e.symm))), h6.set q i v (.inr hw), h7⟩
end

/-- What try leaves. -/
def TPost (B pb mb ab cb : Nat) (U : List (Nat × Option Nat)) (f : Nat → Option Nat) (src uv : Value) (pos depth dx dy : Int) (k : Nat) (fl : Bool) (w w' : World) : Prop :=
  (fl = false ∧ RPost B pb mb ab cb U f src uv (wrap64 (pos + dx)) (wrap64 (depth + dy)) k w w') ∨
  (fl = true ∧ ∃ uv' fa, S B pb mb U f src uv' pos depth w' ∧ w'.heap[ab]? = some (.cells (arr fa) 31 (0, 0)) ∧ w'.heap[cb]? = some (.cells #[.int .i64 1] 3 (0, 0)) ∧ Ch w w' (Rch pb mb uv ab cb))

set_option maxHeartbeats 16000000 in
set_option maxRecDepth 100000 in
theorem try6 {B pb mb ab cb kb vb sb xb yb fb k : Nat} {U : List (Nat × Option Nat)} {f : Nat → Option Nat} {src uv : Value} {sa : Option Addr} {sl sc : Nat} {pos depth dx dy : Int} {fl : Bool} {w : World} (z : Nat → Int)
    (h : S B pb mb U f src uv pos depth w) (hB : Bx kb vb sb xb yb fb pb k (.slice sa sl sc) dx dy fl w) (hab : w.heap[ab]? = some (.cells (arr f) 31 (0, 0))) (hcb : w.heap[cb]? = some (.cells #[.int .i64 0] 3 (0, 0)))
    (n1 : kb ≠ cb) (n2 : xb ≠ cb) (n3 : yb ≠ cb) (lab : B ≤ ab) (lcb : B ≤ cb)
    (hst : ∀ i, i < k → i < sl ∧ ∃ x, sa = some x ∧ x.block < B ∧ w.cell? (x.add i) = some (.int .u8 (z i))) (hz : ∀ i, i < k → 0 ≤ z i ∧ z i < 256) (hU : U.length ≤ 1024) (hk : k ≤ 1024) :
    Calls Yba.prog 6 #[.pointer (some ⟨pb, 0, none⟩), .func (.func 7) #[] #[.pointer (some ⟨cb, 0, none⟩), .pointer (some ⟨kb, 0, none⟩), .pointer (some ⟨vb, 0, none⟩), .pointer (some ⟨sb, 0, none⟩), .pointer (some ⟨ab, 0, none⟩), .pointer (some ⟨xb, 0, none⟩), .pointer (some ⟨yb, 0, none⟩), .pointer (some ⟨fb, 0, none⟩)]] w fun e w' =>
      e = .returned (.bool (!fl)) ∧ TPost B pb mb ab cb U f src uv pos depth dx dy k fl w w' := by
  have hmf : ∀ (fn : Fn) (first cap : Array Value) (w : World), (Instr.makeFunc fn first cap).run Yba.prog w = .ok (.func fn first cap) w := fun _ _ _ _ => rfl
  obtain ⟨ua, uc, hus⟩ := h.isSlice
  have HH := hid (show S B pb mb U f src uv pos depth w ∧ Bx kb vb sb xb yb fb pb k (.slice sa sl sc) dx dy fl w ∧ w.heap[ab]? = some (.cells (arr f) 31 (0, 0)) ∧ w.heap[cb]? = some (.cells #[.int .i64 0] 3 (0, 0)) ∧ (∀ i, i < k → i < sl ∧ ∃ x, sa = some x ∧ x.block < B ∧ w.cell? (x.add i) = some (.int .u8 (z i))) from ⟨h, hB, hab, hcb, hst⟩)
  have HZ := hid hz
  have HN := hid (And.intro n1 (And.intro n2 (And.intro n3 (And.intro lab lcb))))
  have e1 : w.cell? ⟨pb, 1, none⟩ = some (.int .i64 pos) := cell_block h.blk rfl
  have e5 : w.cell? ⟨pb, 5, none⟩ = some uv := cell_block h.blk rfl
  have e6 : w.cell? ⟨pb, 6, none⟩ = some (.int .i64 depth) := cell_block h.blk rfl
  rw [hus] at e5
  have lt0 : pb < w.heap.size := lt_block h.blk
  obtain ⟨W0, hW0⟩ : ∃ W0, W0 = (w.alloc (.cells #[.pointer (some ⟨pb, 0, none⟩)] 23)).alloc (.cells #[.bool false] 4) := ⟨_, rfl⟩
  have hC0 : Ch w W0 (fun _ => False) := by rw [hW0]; exact ((Ch.refl w _).alloc _).alloc _
  have g0 : W0.heap[w.heap.size]? = some (.cells #[.pointer (some ⟨pb, 0, none⟩)] 23 (0, 0)) := by rw [hW0]; exact alloc_block (heap_alloc_new _ _)
  have g1 : W0.heap[w.heap.size + 1]? = some (.cells #[.bool false] 4 (0, 0)) := by
    rw [hW0]
    have := heap_alloc_new (w.alloc (.cells #[.pointer (some ⟨pb, 0, none⟩)] 23)) (.cells #[.bool false] 4)
    simpa using this
  have hsz0 : W0.heap.size = w.heap.size + 2 := by rw [hW0]; simp
  have e1' := hC0.cell e1 id
  have e5' := hC0.cell e5 id
  have e6' := hC0.cell e6 id
  have e0' : W0.cell? ⟨w.heap.size, 0, none⟩ = some (.pointer (some ⟨pb, 0, none⟩)) := cell_block g0 rfl
  have lt1 : pb < W0.heap.size := by omega
  have lt2 : w.heap.size < W0.heap.size := by omega
  have lt3 : pb < W0.heap.size + 1 := by omega
  have lt4 : w.heap.size < W0.heap.size + 1 := by omega
  have lt5 : pb < W0.heap.size + 1 + 1 := by omega
  have lt6 : w.heap.size < W0.heap.size + 1 + 1 := by omega
  have HW0 := hid hW0
  have HG := hid (And.intro hC0 (And.intro g0 g1))
  have hszl : w.heap.size ≤ W0.heap.size := by omega
  clear h hB hab hcb hst hz n1 n2 n3 lab lcb e1 e5 e6 hC0 g0 g1 hsz0 hW0
  go_enter_defers Yba.func6, Yba.ntmps6
  go_upto_region 1 with fail
  rw [← HW0.out]
  go_cut [5, 6, 7] from 8 to 20 (fun s5 s6 s7 wx => ∃ b5 b6 b7, s5 = .pointer (some ⟨b5, 0, none⟩) ∧ s6 = .pointer (some ⟨b6, 0, none⟩) ∧ s7 = .pointer (some ⟨b7, 0, none⟩) ∧
    wx.heap[b5]? = some (.cells #[.int .i64 pos] 3 (0, 0)) ∧ wx.heap[b6]? = some (.cells #[.int .i64 (U.length : Int)] 3 (0, 0)) ∧ wx.heap[b7]? = some (.cells #[.int .i64 depth] 3 (0, 0)) ∧ W0.heap.size ≤ b5 ∧ W0.heap.size ≤ b6 ∧ W0.heap.size ≤ b7 ∧ Ch W0 wx (fun _ => False))
  case first =>
    go_region_held3 (fun w' => w'.cell? ⟨w.heap.size, 0, none⟩ = some (.pointer (some ⟨pb, 0, none⟩)) ∧ w'.cell? ⟨pb, 1, none⟩ = some (.int .i64 pos) ∧ w'.cell? ⟨pb, 5, none⟩ = some (.slice ua U.length uc) ∧ w'.cell? ⟨pb, 6, none⟩ = some (.int .i64 depth)) (refine ⟨?_, ?_, ?_, ?_⟩ <;> (repeat (first | assumption | refine keep_drew ?_ | refine keep_alloc _ ?_ | (refine keep_set _ _ _ (by simp <;> omega) ?_)))) (fail)
    all_goals (
      go_wp2_with fail
      go_meet
      refine ⟨_, _, _, rfl, rfl, rfl, ?_, ?_, ?_, by omega, by omega, by omega, ((((Ch.refl _ _).alloc _).alloc _).alloc _).drew⟩
      all_goals (first | exact (three_at _ _ _ _).1 | exact (three_at _ _ _ _).2.1 | exact (three_at _ _ _ _).2.2))
  case rest =>
  obtain ⟨b5, b6, b7, rfl, rfl, rfl, h5, h6, h7, l5, l6, l7, hC1⟩ := hcut
  obtain ⟨hC0, g0, g1⟩ := HG.out
  obtain ⟨h, hB, hab, hcb, hst⟩ := HH.out
  have hCw : Ch w wc (fun _ => False) := hC0.step hC1
  have g0' := hC1.at g0 id
  have g1' := hC1.at g1 id
  have hlt := h.rch_lt (lt_block hab) (lt_block hcb)
  have HR := hid (read7 z (h.ch hCw (fun q hq => hq.elim)) (hB.ch hCw id id id id id id) (hCw.at hab id) (hCw.at hcb id) HN.out.1 HN.out.2.1 HN.out.2.2.1 HN.out.2.2.2.1 HN.out.2.2.2.2 (fun i hi => by obtain ⟨q1, x, q2, q3, q4⟩ := hst i hi; exact ⟨q1, x, q2, q3, hCw.cell q4 id⟩) HZ.out hU hk)
  have HCw := hid hCw
  have HBoxes := hid (And.intro g0' (And.intro g1' (And.intro h5 (And.intro h6 (And.intro h7 hlt)))))
  have HL : Hid (w.heap.size ≤ b5 ∧ w.heap.size ≤ b6 ∧ w.heap.size ≤ b7) := ⟨by omega, by omega, by omega⟩
  clear h hB hab hcb hst hCw g0 g1 g0' g1' hlt h5 h6 h7 l5 l6 l7 hC1 hC0 e0' e1' e5' e6' lt0 lt1 lt2 lt3 lt4 lt5 lt6
  have HOk : Hid (∀ {w4 : World} {ps dp : Int}, RPost B pb mb ab cb U f src uv ps dp k wc w4 → w4.heap[w.heap.size + 1]? = some (.cells #[.bool false] 4 (0, 0))) := fun hP => hP.ch.at HBoxes.out.2.1 (fun hq => by have := HBoxes.out.2.2.2.2.2 _ hq; omega)
  cases fl with
  | false =>
    go_wp2_with (go_at_call 7; refine HR.out.mono ?_; rintro e w4 ⟨⟨-, rfl⟩ | ⟨hf, -⟩, hP⟩; rotate_left; cases hf; have ho := HOk.out hP; have ko : w4.cell? ⟨w.heap.size + 1, 0, none⟩ = some (.bool false) := cell_block ho rfl; have fo := frozen_block (i := 0) ho)
    have ho5 : (w4.setCell ⟨w.heap.size + 1, 0, none⟩ (.bool true)).heap[w.heap.size + 1]? = some (.cells #[.bool true] 4 (0, 0)) := set_block ho
    have FP := hid ((hP.from HCw.out).other ho (by decide) (by decide) (by decide) (by decide) (by omega) 0 (.bool true))
    refine leaves_cons (f := 9) (args := #[.pointer (some ⟨w.heap.size + 1, 0, none⟩), .pointer (some ⟨b5, 0, none⟩), .pointer (some ⟨b7, 0, none⟩), .pointer (some ⟨w.heap.size, 0, none⟩), .pointer (some ⟨b6, 0, none⟩)]) (by simp) (by simp [go_sem]) ?_
    refine (idle9 ho5).mono ?_
    rintro e u' w'' ⟨rfl, rfl, rfl⟩
    have k5 : (w4.setCell ⟨w.heap.size + 1, 0, none⟩ (.bool true)).cell? ⟨w.heap.size + 1, 0, none⟩ = some (.bool true) := cell_block ho5 rfl
    have FT : TPost B pb mb ab cb U f src uv pos depth dx dy k false w (w4.setCell ⟨w.heap.size + 1, 0, none⟩ (.bool true)) := .inl ⟨rfl, FP.out⟩
    simp [Leaves, settle, results, Yba.results6, go_sem, k5]
    exact FT
  | true =>
    go_wp2_with (go_at_call 7; refine HR.out.mono ?_; rintro e w4 ⟨⟨hf, -⟩ | ⟨-, qb, rfl⟩, hP⟩; cases hf; have ho := HOk.out hP)
    obtain ⟨L, f', uv', hL, hch, hS4, hab4, hcb4, hC4, hT4⟩ := hP
    obtain ⟨g0, g1, h5, h6, h7, hlt⟩ := HBoxes.out
    obtain ⟨l5, l6, l7⟩ := HL.out
    have nR : ∀ q, w.heap.size ≤ q → ¬ Rch pb mb uv ab cb q := fun q hq hr => by have := hlt q hr; omega
    have i5 := hC4.at h5 (nR _ l5)
    have i6 := hC4.at h6 (nR _ l6)
    have i7 := hC4.at h7 (nR _ l7)
    have i0 := hC4.at g0 (nR _ (Nat.le_refl _))
    refine leaves_cons (f := 9) (args := #[.pointer (some ⟨w.heap.size + 1, 0, none⟩), .pointer (some ⟨b5, 0, none⟩), .pointer (some ⟨b7, 0, none⟩), .pointer (some ⟨w.heap.size, 0, none⟩), .pointer (some ⟨b6, 0, none⟩)]) (by simp) (by simp [go_sem]) ?_
    refine (catch9 hch hS4 (by simp; omega) ho i5 i7 i0 i6).mono ?_
    rintro e u' w5 ⟨rfl, rfl, uv5, hS5, hC5, hown5⟩
    have ho5 := hC5.at ho (hS4.notTch ho (by decide) (by decide))
    have hcb5 := hC5.at hcb4 (hS4.notTch hcb4 (by decide) (by decide))
    have k5 : w5.cell? ⟨w.heap.size + 1, 0, none⟩ = some (.bool false) := cell_block ho5 rfl
    have hC45 : Ch w w4 (Rch pb mb uv ab cb) := (HCw.out.mono (fun q hq => hq.elim)).step hC4
    have FT : TPost B pb mb ab cb U f src uv pos depth dx dy k true w w5 := have hab5 := hC5.at hab4 (hS4.notTch hab4 (by decide) (by decide)); .inr ⟨rfl, uv5, f', hS5, hab5, hcb5, hC45.trans (hC5.mono (fun q hq => (hT4 q hq).imp id (fun hh => Nat.le_trans HCw.out.size hh)))⟩
    simp [Leaves, settle, results, Yba.results6, go_sem, k5]
    exact FT

end Go.Proofs.Ybulkbgos
