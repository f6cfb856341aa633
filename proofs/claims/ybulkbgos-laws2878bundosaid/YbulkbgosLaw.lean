/-
  LawS2878BUndo: the law's walk.
-/
import Derived.Test.YbulkbgosTry
import Derived.Lib.Builder
import Derived.BigQuiet
import Derived.Deep.QuietTactic
namespace Go.Proofs.Ybulkbgos
open Go Go.RowKit Go.Maps Go.WideMaps
set_option linter.unusedSimpArgs false
set_option linter.unusedVariables false

/-- try's end, in one form. -/
structure Fin6 (B pb mb ab cb : Nat) (U : List (Nat × Option Nat)) (f : Nat → Option Nat) (src uv : Value) (pos depth dx dy : Int) (k : Nat) (fl : Bool) (Uf : List (Nat × Option Nat)) (ff fa : Nat → Option Nat) (uvf : Value) (posf depthf : Int) (w w' : World) : Prop where
  s : S B pb mb Uf ff src uvf posf depthf w'
  hab : w'.heap[ab]? = some (.cells (arr fa) 31 (0, 0))
  hcb : w'.heap[cb]? = some (.cells #[.int .i64 1] 3 (0, 0))
  ch : Ch w w' (Rch pb mb uv ab cb)
  yes : fl = false → fa = ff ∧ posf = wrap64 (pos + dx) ∧ depthf = wrap64 (depth + dy) ∧ Uf.length = U.length + k
  no : fl = true → ff = f ∧ posf = pos ∧ depthf = depth ∧ Uf.length = U.length
  pre : ∀ t, t < U.length → Uf[t]? = U[t]?

theorem TPost.fin {B pb mb ab cb k : Nat} {U : List (Nat × Option Nat)} {f : Nat → Option Nat} {src uv : Value} {pos depth dx dy : Int} {fl : Bool} {w w' : World} (h : TPost B pb mb ab cb U f src uv pos depth dx dy k fl w w') :
    ∃ Uf ff fa uvf posf depthf, Fin6 B pb mb ab cb U f src uv pos depth dx dy k fl Uf ff fa uvf posf depthf w w' := by
  rcases h with ⟨rfl, L, f', uv', h1, h2, h3, h4, h5, h6, h7⟩ | ⟨rfl, uv', fa, h1, h2, h3, h4⟩
  · exact ⟨U ++ L, f', f', uv', _, _, h3, h4, h5, h6, fun _ => ⟨rfl, rfl, rfl, by simp [h1]⟩, fun e => (by cases e), fun t ht => List.getElem?_append_left ht⟩
  · exact ⟨U, f, fa, uv', _, _, h1, h2, h3, h4, fun e => (by cases e), fun _ => ⟨rfl, rfl, rfl, rfl⟩, fun t ht => rfl⟩

theorem Ch.of_below {a b : World} (h : Below a.heap.size a b) : Ch a b (fun _ => False) := ⟨h.os, h.tape, h.output, h.size, fun k hk _ => h.block k hk⟩

/-- '[]byte("a: b")', a constant: its row is marked; nothing that was there turns. -/
theorem conv22 (W : World) (A : Array Value) (q : Nat) (hq : q = W.heap.size) : ∃ W5, (convert 22 22 (.slice (some ⟨q, 0, none⟩) 4 4)).run Yba.prog (W.alloc (.cells A 5)) = .ok (.slice (some ⟨q, 0, none⟩) 4 4) W5 ∧ Ch W W5 (fun _ => False) := by
  subst hq
  refine ⟨(W.alloc (.cells A 5)).freeze ⟨W.heap.size, A.size, none⟩ 1, ?_, Ch.of_below (Lib.below_freeze ((Below.refl _ W).alloc (Nat.le_refl _) _) (p := ⟨W.heap.size, _, none⟩) (Nat.le_refl _) 1)⟩
  have hsh : (W.alloc (.cells A 5)).shape? W.heap.size = some (5, A.size) := by
    simp [World.shape?, World.alloc, -World.alloc_eq]
  simp [convert, run_underlying Yba.underlying22, run_underlying Yba.underlying5, markStringish, hsh, Result.andThen]

/-- The log's names are those of the numbers z. -/
def Nm (U : List (Nat × Option Nat)) (z : Nat → Int) : Prop := ∀ t, t < U.length → (U[t]?).map (·.1) = some (z t % 4).toNat

/-- The law's own variables, while the first loop runs. -/
structure M (w : World) (pb mb vb sb xb yb fb tb : Nat) (sv src : Value) (pos depth dx dy : Int) (fl : Bool) (z : Nat → Int) (i : Nat) (U : List (Nat × Option Nat)) (f : Nat → Option Nat) (uv : Value) (wr : World) : Prop where
  s : S w.heap.size pb mb U f src uv pos depth wr
  len : U.length = i
  nm : Nm U z
  v : wr.heap[vb]? = some (.cells #[.pointer (some ⟨pb, 0, none⟩)] 23 (0, 0))
  st : wr.heap[sb]? = some (.cells #[sv] 22 (0, 0))
  x : wr.heap[xb]? = some (.cells #[.int .i64 dx] 3 (0, 0))
  y : wr.heap[yb]? = some (.cells #[.int .i64 dy] 3 (0, 0))
  fl : wr.heap[fb]? = some (.cells #[.bool fl] 4 (0, 0))
  t : wr.heap[tb]? = some (.cells (arr f) 31 (0, 0))
  bel : Below w.heap.size w wr
  lot : w.heap.size ≤ tb

theorem at_alloc (w : World) (o : Obj) {q : Nat} (h : q = w.heap.size) : (w.alloc o).heap[q]? = some o := by subst h; exact heap_alloc_new _ _

theorem map_new {w : World} {b : Nat} (h : w.heap[b]? = some (.map #[] 0)) : w.ownsMap Yba.prog 9 ptrR b 4 (.map []) := by
  obtain ⟨es, clock, hb, F, hs, hD⟩ := World.ownsMap_made (H := Unit) w Yba.prog 9 ptrR
  have e1 : (w.alloc (.map #[] 0)).heap[w.heap.size]? = some (.map #[] 0) := heap_alloc_new _ _
  rw [e1] at hb
  injection hb with hb
  injection hb with h1 h2
  subst h1 h2
  exact ⟨_, _, h, F, by simp, hD⟩

theorem M_start {w W5 : World} {sb xb yb fb : Nat} {sv src : Value} (start sdepth : Int) {dx dy : Int} {fl : Bool} (z : Nat → Int) (hC : Ch w W5 (fun _ => False))
    (h1 : W5.heap[sb]? = some (.cells #[sv] 22 (0, 0))) (h2 : W5.heap[xb]? = some (.cells #[.int .i64 dx] 3 (0, 0))) (h3 : W5.heap[yb]? = some (.cells #[.int .i64 dy] 3 (0, 0))) (h4 : W5.heap[fb]? = some (.cells #[.bool fl] 4 (0, 0))) :
    M w (W5.heap.size + 1) W5.heap.size (W5.heap.size + 1 + 1) sb xb yb fb (W5.heap.size + 1 + 1 + 1) sv src start sdepth dx dy fl z 0 [] (fun _ => none) (.slice none 0 0)
      ((((W5.alloc (.map #[] 0)).alloc (.cells #[src, .int .i64 start, .slice none 0 0, .map none, .map (some W5.heap.size), .slice none 0 0, .int .i64 sdepth] 29)).alloc (.cells #[.pointer (some ⟨W5.heap.size + 1, 0, none⟩)] 23)).alloc (.cells #[.pointer none, .pointer none, .pointer none, .pointer none] 31)) := by
  have hs := hC.size
  refine ⟨⟨?_, ⟨_, map_new ?_, MapIs.empty⟩, World.ownsRow_nil _ _ _ _, ⟨by omega, by omega⟩, by simp; omega⟩, rfl, fun t ht => by simp at ht, ?_, ?_, ?_, ?_, ?_, ?_, ?_, by omega⟩
  · exact alloc_block (alloc_block (at_alloc _ _ (by simp)))
  · exact alloc_block (alloc_block (alloc_block (at_alloc _ _ (by simp))))
  · exact alloc_block (at_alloc _ _ (by simp))
  · exact alloc_block (alloc_block (alloc_block (alloc_block h1)))
  · exact alloc_block (alloc_block (alloc_block (alloc_block h2)))
  · exact alloc_block (alloc_block (alloc_block (alloc_block h3)))
  · exact alloc_block (alloc_block (alloc_block (alloc_block h4)))
  · exact at_alloc _ _ (by simp)
  · exact Ch.below (Below.refl _ _) ((((hC.alloc _).alloc _).alloc _).alloc _) (Nat.le_refl _) (fun q hq => hq.elim)

section
variable {w wr wc : World} {pb mb vb sb xb yb fb tb : Nat} {sv src uv uv2 : Value} {pos depth dx dy : Int} {fl : Bool} {z : Nat → Int} {i j : Nat} {U : List (Nat × Option Nat)} {f : Nat → Option Nat}

theorem M.next (h : M w pb mb vb sb xb yb fb tb sv src pos depth dx dy fl z i U f uv wr) (o : Obj) (hj : j < 4) (hz : (z i % 4).toNat = j)
    (hS : S w.heap.size pb mb (U ++ [(j, f j)]) (upd f j (some wr.heap.size)) src uv2 pos depth wc) (hC : Ch (wr.alloc o) wc (Tch pb mb uv)) :
    M w pb mb vb sb xb yb fb tb sv src pos depth dx dy fl z (i + 1) (U ++ [(j, f j)]) (upd f j (some wr.heap.size)) uv2 (wc.setCell ⟨tb, j, none⟩ (.pointer (some ⟨wr.heap.size, 0, none⟩))) := by
  have ht := hC.at (alloc_block h.t) (h.s.notTch h.t (by decide) (by decide))
  have hcs : Ch wc (wc.setCell ⟨tb, j, none⟩ (.pointer (some ⟨wr.heap.size, 0, none⟩))) (· = tb) := (Ch.refl wc _).set tb j _ (.inl rfl)
  have keep : ∀ {q t : Nat} {A : Array Value}, wr.heap[q]? = some (.cells A t (0, 0)) → t ≠ 29 → t ≠ 43 → t ≠ 31 → (wc.setCell ⟨tb, j, none⟩ (.pointer (some ⟨wr.heap.size, 0, none⟩))).heap[q]? = some (.cells A t (0, 0)) := by
    intro q t A hq h29 h43 h31
    have h1 := hC.at (alloc_block hq) (h.s.notTch hq h29 h43)
    exact hcs.at h1 (ne_block h1 ht (cells_ne h31))
  refine ⟨hS.ch hcs (fun q hq hT => by rw [hq] at hT; exact hS.notTch ht (by decide) (by decide) hT), by simp [h.len], ?_, keep h.v (by decide) (by decide) (by decide), keep h.st (by decide) (by decide) (by decide), keep h.x (by decide) (by decide) (by decide), keep h.y (by decide) (by decide) (by decide), keep h.fl (by decide) (by decide) (by decide), by rw [set_block ht, arr_set _ hj], ?_, h.lot⟩
  · intro t ht'
    have hl := h.len
    by_cases e : t < U.length
    · rw [List.getElem?_append_left e]; exact h.nm t e
    · have e2 : t = i := by simp at ht'; omega
      subst e2
      rw [List.getElem?_append_right (by omega), hl]
      simp [hz]
  · have hb1 : Below w.heap.size w (wr.alloc o) := h.bel.alloc h.s.sz o
    have hb2 := Ch.below hb1 hC (by have := h.s.sz; simp; omega) h.s.tch_lo
    exact Ch.below hb2 hcs hS.sz (fun q hq => by rw [hq]; exact h.lot)
end

/-- How many of the first j names are marked. -/
def cn (f : Nat → Option Nat) : Nat → Nat
  | 0 => 0
  | j + 1 => cn f j + c1 (f j)
theorem cn_succ (f : Nat → Option Nat) (j : Nat) : cn f (j + 1) = cn f j + c1 (f j) := rfl
theorem cn_le (f : Nat → Option Nat) (j : Nat) : cn f j ≤ j := by
  induction j with
  | zero => exact Nat.le_refl _
  | succ j ih => rw [cn_succ]; have := c1_le (f j); omega
theorem cn_four (f : Nat → Option Nat) : cn f 4 = cnt4 f := by
  unfold cnt4
  simp [cn]

theorem Yba.info36 : ∃ i : TypeInfo, Yba.prog.info? 36 = some i := by
  have h : (Yba.prog.info? 36).isSome = true := by kernel_rfl
  exact Option.isSome_iff_exists.1 h

theorem uC_get {U : List (Nat × Option Nat)} {t j : Nat} {o : Option Nat} (h : U[t]? = some (j, o)) : (uC U)[t * 2]? = some (.string (nameB j)) := by
  induction U generalizing t with
  | nil => simp at h
  | cons p U ih =>
    cases t with
    | zero => simp at h; subst h; rfl
    | succ t =>
      have h' : U[t]? = some (j, o) := by simpa using h
      have e : uC (p :: U) = [.string (nameB p.1), ptrV p.2] ++ uC U := rfl
      rw [e, show (t + 1) * 2 = 2 + t * 2 by omega, List.getElem?_append_right (by simp)]
      simpa using ih h'

set_option maxHeartbeats 16000000 in
set_option maxRecDepth 100000 in
theorem law3 (start sdepth : Int) (a2 : Option Addr) (n2 k2 : Nat) (z2 : Nat → Int) (a3 : Option Addr) (n3 k3 : Nat) (z3 : Nat → Int) (dx dy : Int) (fl : Bool) (fa : Int) (w : World)
    (h2 : ∀ i, i < n2 → ∃ x, a2 = some x ∧ x.block < w.heap.size ∧ w.cell? (x.add i) = some (.int .u8 (z2 i))) (g2 : ∀ i, i < n2 → 0 ≤ z2 i ∧ z2 i < 256)
    (h3 : ∀ i, i < n3 → ∃ x, a3 = some x ∧ x.block < w.heap.size ∧ w.cell? (x.add i) = some (.int .u8 (z3 i))) (g3 : ∀ i, i < n3 → 0 ≤ z3 i ∧ z3 i < 256) (hfa : 0 ≤ fa ∧ fa < 256)
    (m2 : n2 ≤ maxLen) (m3 : n3 ≤ maxLen) :
    Calls Yba.prog 3 #[.int .i64 start, .int .i64 sdepth, .slice a2 n2 k2, .slice a3 n3 k3, .int .i64 dx, .int .i64 dy, .bool fl, .int .u8 fa] w fun e w' => e = .returned (.bool true) ∧ Below w.heap.size w w' := by
  have e47 : maxLen ≤ 9223372036854775807 := by unfold maxLen; omega
  obtain ⟨i36, hi36⟩ := Yba.info36
  by_cases b2 : 1024 < n2
  · go_enter Yba.func3, Yba.ntmps3
    go_wp2
    go_ret
    exact ⟨rfl, ((((Below.refl _ _).alloc (Nat.le_refl _) _).alloc (by simp) _).alloc (by simp; omega) _).alloc (by simp; omega) _⟩
  · by_cases b3 : 1024 < n3
    · go_enter Yba.func3, Yba.ntmps3
      go_wp2
      go_ret
      exact ⟨rfl, ((((Below.refl _ _).alloc (Nat.le_refl _) _).alloc (by simp) _).alloc (by simp; omega) _).alloc (by simp; omega) _⟩
    · have hmm := @run_makeMap Yba.prog
      obtain ⟨W4, hW4⟩ : ∃ W4, W4 = (((w.alloc (.cells #[.slice a3 n3 k3] 22)).alloc (.cells #[.int .i64 dx] 3)).alloc (.cells #[.int .i64 dy] 3)).alloc (.cells #[.bool fl] 4) := ⟨_, rfl⟩
      obtain ⟨W5, hcv, hC5⟩ := conv22 W4 #[.int .u8 97, .int .u8 58, .int .u8 32, .int .u8 98] (w.heap.size + 1 + 1 + 1 + 1) (by rw [hW4]; simp)
      have hC4 : Ch w W4 (fun _ => False) := by rw [hW4]; exact ((((Ch.refl w _).alloc _).alloc _).alloc _).alloc _
      have q1 : W4.heap[w.heap.size]? = some (.cells #[.slice a3 n3 k3] 22 (0, 0)) := by rw [hW4]; exact alloc_block (alloc_block (alloc_block (at_alloc _ _ rfl)))
      have q2 : W4.heap[w.heap.size + 1]? = some (.cells #[.int .i64 dx] 3 (0, 0)) := by rw [hW4]; exact alloc_block (alloc_block (at_alloc _ _ (by simp)))
      have q3 : W4.heap[w.heap.size + 1 + 1]? = some (.cells #[.int .i64 dy] 3 (0, 0)) := by rw [hW4]; exact alloc_block (at_alloc _ _ (by simp))
      have q4 : W4.heap[w.heap.size + 1 + 1 + 1]? = some (.cells #[.bool fl] 4 (0, 0)) := by rw [hW4]; exact at_alloc _ _ (by simp)
      have HM := hid (M_start (src := .slice (some ⟨w.heap.size + 1 + 1 + 1 + 1, 0, none⟩) 4 4) start sdepth z2 (hC4.step hC5) (hC5.at q1 id) (hC5.at q2 id) (hC5.at q3 id) (hC5.at q4 id))
      rw [hW4] at hcv
      clear hW4 hC4 hC5 q1 q2 q3 q4
      have H2 := hid h2
      have G2 := hid g2
      have H3 := hid h3
      have G3 := hid g3
      clear h2 g2 h3 g3
      go_enter Yba.func3, Yba.ntmps3
      go_wp2
      generalize w.heap.size + 1 + 1 + 1 + 1 = cs at *
      generalize w.heap.size + 1 + 1 + 1 = fb at *
      generalize w.heap.size + 1 + 1 = yb at *
      generalize w.heap.size + 1 = xb at *
      generalize W5.heap.size + 1 + 1 + 1 = tb at *
      generalize W5.heap.size + 1 + 1 = vb at *
      generalize W5.heap.size + 1 = pb at *
      generalize W5.heap.size = mb at *
      clear hcv hmm
      go_loopg [19] n2 (fun k s19 wr => ∃ i : Nat, i + k = n2 ∧ s19 = .int .i64 i ∧ ∃ U f uv, M w pb mb vb w.heap.size xb yb fb tb (.slice a3 n3 k3) (.slice (some ⟨cs, 0, none⟩) 4 4) start sdepth dx dy fl z2 i U f uv wr)
      case atStart => exact ⟨0, by omega, rfl, _, _, _, HM.out⟩
      case round =>
        obtain ⟨i, hik, rfl, U, f, uv, hM⟩ := hrel
        clear HM
        by_cases hlt : i < n2
        · obtain ⟨x, hsa, hxB, hcx⟩ := H2.out i hlt
          obtain ⟨hz0, hz1⟩ := G2.out i hlt
          subst hsa
          obtain ⟨j, hj, hjz⟩ : ∃ j : Nat, j < 4 ∧ z2 i % 4 = (j : Int) := ⟨(z2 i % 4).toNat, by omega, by omega⟩
          have HN : Hid (∀ W, Calls Yba.prog 5 #[.int .u8 (z2 i)] W fun e w' => e = .returned (.string (nameB j)) ∧ w' = W) := by
            intro W
            have := name5 (z2 i) hz0 hz1 W
            rw [hjz] at this
            exact this
          obtain ⟨o, ho⟩ : ∃ o, o = Obj.cells #[.int .i64 0, .int .i64 0, .string ⟨#[]⟩, .string ⟨#[]⟩, .string ⟨#[]⟩, .slice none 0 0, .pointer none, .int .i64 (i : Int)] 36 := ⟨_, rfl⟩
          have hcr : wr.cell? (x.add i) = some (.int .u8 (z2 i)) := (hM.bel.cell (p := x.add i) (by rw [add_block]; exact hxB)).trans hcx
          have c6 := keep_alloc o hcr
          have c2 : (wr.alloc o).cell? ⟨vb, 0, none⟩ = some (.pointer (some ⟨pb, 0, none⟩)) := cell_block (alloc_block hM.v) rfl
          have hUl : U.length ≤ 4096 := by rw [hM.len]; omega
          have HD := hid (define4 ((hM.s.alloc o).ch (Ch.refl _ (fun _ => False)).drew (fun q hq => hq.elim)) hj wr.heap.size hUl)
          have HM := hid hM
          have HZ : Hid ((z2 i % 4).toNat = j) := by show _ = _; omega
          clear hM hcx hcr hUl
          go_wp2_with fail
          rw [← ho]
          generalize hwn : wr.alloc o = wn at *
          go_upto_region 9 with fail
          go_cut [] (fun wx => ∃ uv2, S w.heap.size pb mb (U ++ [(j, f j)]) (upd f j (some wr.heap.size)) (.slice (some ⟨cs, 0, none⟩) 4 4) uv2 start sdepth wx ∧ Ch wn wx (Tch pb mb uv))
          case first =>
            go_region_with (first | (go_at_call 5; refine (HN.out _).mono ?_; rintro e w' ⟨rfl, rfl⟩) | (go_at_call 4; refine HD.out.mono ?_; rintro e w' ⟨rfl, hD⟩))
            all_goals (
              go_wp2_with fail
              go_meet
              obtain ⟨uv2, hS2, hC2, hT2⟩ := hD
              exact ⟨uv2, hS2, ⟨hC2.os, hC2.tape, hC2.output, hC2.size, hC2.block⟩⟩)
          case rest =>
          obtain ⟨uv2, hS2, hC2⟩ := hcut
          subst hwn
          have hM := HM.out
          have ht2 := hC2.at (alloc_block hM.t) (hM.s.notTch hM.t (by decide) (by decide))
          have c6' := hC2.cell c6 (fun hq => by have := hM.s.tch_lo _ hq; rw [add_block] at this; omega)
          have ca : wc.cell? ⟨tb, j, none⟩ = some (ptrV (f j)) := cell_block ht2 (arr_get f hj)
          have fa' := frozen_block (i := j) ht2
          have FR := hid (hM.next o hj HZ.out hS2 hC2)
          have hji : (j : Int) < 4 := by omega
          clear HM HN HD hS2 hC2 hM ht2 c6 c2 HZ
          go_wp2
          go_roundg (gk - 1)
          case measure => omega
          case rel => exact ⟨i + 1, by omega, by go_num, _, _, _, FR.out⟩
        · obtain rfl : i = n2 := by omega
          clear m2
          obtain ⟨p0, hp0⟩ : ∃ p, ptrV (f 0) = .pointer p := by cases f 0 <;> exact ⟨_, rfl⟩
          obtain ⟨p1, hp1⟩ : ∃ p, ptrV (f 1) = .pointer p := by cases f 1 <;> exact ⟨_, rfl⟩
          obtain ⟨p2, hp2⟩ : ∃ p, ptrV (f 2) = .pointer p := by cases f 2 <;> exact ⟨_, rfl⟩
          obtain ⟨p3, hp3⟩ : ∃ p, ptrV (f 3) = .pointer p := by cases f 3 <;> exact ⟨_, rfl⟩
          have harr : arr f = #[.pointer p0, .pointer p1, .pointer p2, .pointer p3] := by unfold arr; rw [hp0, hp1, hp2, hp3]
          have ht := hM.t
          rw [harr] at ht
          have t0 : wr.cell? ⟨tb, 0, none⟩ = some (.pointer p0) := cell_block ht rfl
          have t1 : wr.cell? ⟨tb, 1, none⟩ = some (.pointer p1) := cell_block ht rfl
          have t2 : wr.cell? ⟨tb, 2, none⟩ = some (.pointer p2) := cell_block ht rfl
          have t3 : wr.cell? ⟨tb, 3, none⟩ = some (.pointer p3) := cell_block ht rfl
          have l1 : tb < wr.heap.size := lt_block ht
          have l2 : w.heap.size < wr.heap.size := lt_block hM.st
          have l3 : fb < wr.heap.size := lt_block hM.fl
          have l4 : vb < wr.heap.size := lt_block hM.v
          have l5 : xb < wr.heap.size := lt_block hM.x
          have l6 : yb < wr.heap.size := lt_block hM.y
          have ll1 : tb < wr.heap.size + 1 := by omega
          have ll2 : tb < wr.heap.size + 1 + 1 := by omega
          have ll3 : tb < wr.heap.size + 1 + 1 + 1 := by omega
          have ll4 : w.heap.size < wr.heap.size + 1 := by omega
          have ll5 : w.heap.size < wr.heap.size + 1 + 1 := by omega
          have ll6 : w.heap.size < wr.heap.size + 1 + 1 + 1 := by omega
          have ll7 : fb < wr.heap.size + 1 := by omega
          have ll8 : fb < wr.heap.size + 1 + 1 := by omega
          have ll9 : fb < wr.heap.size + 1 + 1 + 1 := by omega
          have ll10 : vb < wr.heap.size + 1 := by omega
          have ll11 : vb < wr.heap.size + 1 + 1 := by omega
          have ll12 : vb < wr.heap.size + 1 + 1 + 1 := by omega
          have c1 : wr.cell? ⟨w.heap.size, 0, none⟩ = some (.slice a3 n3 k3) := cell_block hM.st rfl
          have c2 : wr.cell? ⟨fb, 0, none⟩ = some (.bool fl) := cell_block hM.fl rfl
          have c3 : wr.cell? ⟨vb, 0, none⟩ = some (.pointer (some ⟨pb, 0, none⟩)) := cell_block hM.v rfl
          obtain ⟨kk, hkk, hkf, hkt⟩ : ∃ kk : Nat, kk ≤ n3 ∧ (fl = false → kk = n3) ∧ (fl = true → fa % ((n3 : Int) + 1) = (kk : Int)) := by
            cases fl with
            | false => exact ⟨n3, Nat.le_refl _, fun _ => rfl, fun e => by cases e⟩
            | true =>
              have h1 : 0 ≤ fa % ((n3 : Int) + 1) := Int.emod_nonneg _ (by omega)
              have h2 : fa % ((n3 : Int) + 1) < (n3 : Int) + 1 := Int.emod_lt_of_pos _ (by omega)
              exact ⟨(fa % ((n3 : Int) + 1)).toNat, by omega, fun e => (by cases e), fun _ => (by omega)⟩
          obtain ⟨Wt, hWt⟩ : ∃ Wt, Wt = (((wr.alloc (.cells #[.pointer p0, .pointer p1, .pointer p2, .pointer p3] 31)).alloc (.cells #[.pointer p0, .pointer p1, .pointer p2, .pointer p3] 31)).alloc (.cells #[.int .i64 (kk : Int)] 3)).alloc (.cells #[.int .i64 0] 3) := ⟨_, rfl⟩
          have hCt : Ch wr Wt (fun _ => False) := by rw [hWt]; exact ((((Ch.refl wr _).alloc _).alloc _).alloc _).alloc _
          have y1 : Wt.heap[wr.heap.size]? = some (.cells (arr f) 31 (0, 0)) := by rw [hWt, harr]; exact alloc_block (alloc_block (alloc_block (at_alloc _ _ rfl)))
          have y2 : Wt.heap[wr.heap.size + 1]? = some (.cells (arr f) 31 (0, 0)) := by rw [hWt, harr]; exact alloc_block (alloc_block (at_alloc _ _ (by simp)))
          have y3 : Wt.heap[wr.heap.size + 1 + 1]? = some (.cells #[.int .i64 (kk : Int)] 3 (0, 0)) := by rw [hWt]; exact alloc_block (at_alloc _ _ (by simp))
          have y4 : Wt.heap[wr.heap.size + 1 + 1 + 1]? = some (.cells #[.int .i64 0] 3 (0, 0)) := by rw [hWt]; exact at_alloc _ _ (by simp)
          have hBx : Bx (wr.heap.size + 1 + 1) vb w.heap.size xb yb fb pb kk (.slice a3 n3 k3) dx dy fl Wt := ⟨y3, hCt.at hM.v id, hCt.at hM.st id, hCt.at hM.x id, hCt.at hM.y id, hCt.at hM.fl id⟩
          have HT := hid (try6 z3 (hM.s.ch hCt (fun q hq => hq.elim)) hBx y2 y4 (by omega) (by omega) (by omega) (by omega) (by omega)
            (fun t ht => by
              obtain ⟨x, e1, e2, e3⟩ := H3.out t (by omega)
              exact ⟨by omega, x, e1, e2, hCt.cell ((hM.bel.cell (p := x.add t) (by rw [add_block]; exact e2)).trans e3) id⟩)
            (fun t ht => G3.out t (by omega)) (by rw [hM.len]; omega) (by omega))
          have HM := hid hM
          have HW := hid hWt
          have HY := hid (And.intro hCt (And.intro y1 (And.intro hBx (And.intro y2 y4))))
          have hmf : ∀ (fn : Fn) (first cap : Array Value) (w : World), (Instr.makeFunc fn first cap).run Yba.prog w = .ok (.func fn first cap) w := fun _ _ _ _ => rfl
          rw [HW.out] at HT
          clear hM hp0 hp1 hp2 hp3 harr ht hCt y1 y2 y3 y4 hBx hWt
          cases fl with
          | false =>
            obtain rfl := hkf rfl
            clear hkt hkf
            go_upto_region 18 with (go_at_call 6; refine HT.out.mono ?_; rintro e w6 ⟨rfl, hTP⟩)
            rw [← HW.out] at hTP
            obtain ⟨Uf, ff, fa', uvf, posf, depthf, F⟩ := hTP.fin
            obtain ⟨rfl, rfl, rfl, hUl⟩ := F.yes rfl
            obtain ⟨hCt, y1, hBx, y2, y4⟩ := HY.out
            have hM := HM.out
            have hSt := hM.s.ch hCt (fun q hq => hq.elim)
            have hB6 := hBx.ch F.ch (hSt.notRch hBx.k (by decide) (by decide) (by omega) (by omega)) (hSt.notRch hBx.v (by decide) (by decide) (by omega) (by omega)) (hSt.notRch hBx.s (by decide) (by decide) (by omega) (by omega)) (hSt.notRch hBx.x (by decide) (by decide) (by omega) (by omega)) (hSt.notRch hBx.y (by decide) (by decide) (by omega) (by omega)) (hSt.notRch hBx.fl (by decide) (by decide) (by omega) (by omega))
            have hbf := F.ch.at y1 (hSt.notRch y1 (by decide) (by decide) (by omega) (by omega))
            have hab6 := F.hab
            obtain ⟨r0, hr0⟩ : ∃ p, ptrV (fa' 0) = .pointer p := by cases fa' 0 <;> exact ⟨_, rfl⟩
            obtain ⟨r1, hr1⟩ : ∃ p, ptrV (fa' 1) = .pointer p := by cases fa' 1 <;> exact ⟨_, rfl⟩
            obtain ⟨r2, hr2⟩ : ∃ p, ptrV (fa' 2) = .pointer p := by cases fa' 2 <;> exact ⟨_, rfl⟩
            obtain ⟨r3, hr3⟩ : ∃ p, ptrV (fa' 3) = .pointer p := by cases fa' 3 <;> exact ⟨_, rfl⟩
            have harr : arr fa' = #[.pointer r0, .pointer r1, .pointer r2, .pointer r3] := by unfold arr; rw [hr0, hr1, hr2, hr3]
            rw [harr] at hab6
            have u0 : w6.cell? ⟨wr.heap.size + 1, 0, none⟩ = some (.pointer r0) := cell_block hab6 rfl
            have u1 : w6.cell? ⟨wr.heap.size + 1, 1, none⟩ = some (.pointer r1) := cell_block hab6 rfl
            have u2 : w6.cell? ⟨wr.heap.size + 1, 2, none⟩ = some (.pointer r2) := cell_block hab6 rfl
            have u3 : w6.cell? ⟨wr.heap.size + 1, 3, none⟩ = some (.pointer r3) := cell_block hab6 rfl
            have d1 : w6.cell? ⟨vb, 0, none⟩ = some (.pointer (some ⟨pb, 0, none⟩)) := cell_block hB6.v rfl
            have d2 : w6.cell? ⟨xb, 0, none⟩ = some (.int .i64 dx) := cell_block hB6.x rfl
            have d3 : w6.cell? ⟨yb, 0, none⟩ = some (.int .i64 dy) := cell_block hB6.y rfl
            have d4 : w6.cell? ⟨wr.heap.size + 1 + 1, 0, none⟩ = some (.int .i64 (kk : Int)) := cell_block hB6.k rfl
            have d5 : w6.cell? ⟨fb, 0, none⟩ = some (.bool false) := cell_block hB6.fl rfl
            have d6 : w6.cell? ⟨wr.heap.size + 1 + 1 + 1, 0, none⟩ = some (.int .i64 1) := cell_block F.hcb rfl
            obtain ⟨ua, uc, hus⟩ := F.s.isSlice
            rw [hUl, hM.len] at hus
            have e1 : w6.cell? ⟨pb, 1, none⟩ = some (.int .i64 (wrap64 (start + dx))) := cell_block F.s.blk rfl
            have e4 : w6.cell? ⟨pb, 4, none⟩ = some (.map (some mb)) := cell_block F.s.blk rfl
            have e5 : w6.cell? ⟨pb, 5, none⟩ = some uvf := cell_block F.s.blk rfl
            have e6 : w6.cell? ⟨pb, 6, none⟩ = some (.int .i64 (wrap64 (sdepth + dy))) := cell_block F.s.blk rfl
            rw [hus] at e5
            have o1 : vb < w6.heap.size := lt_block hB6.v
            have o2 : xb < w6.heap.size := lt_block hB6.x
            have o3 : yb < w6.heap.size := lt_block hB6.y
            have o4 : wr.heap.size + 1 + 1 < w6.heap.size := lt_block hB6.k
            have o5 : fb < w6.heap.size := lt_block hB6.fl
            have o6 : wr.heap.size + 1 + 1 + 1 < w6.heap.size := lt_block F.hcb
            have o7 : pb < w6.heap.size := lt_block F.s.blk
            have o8 : wr.heap.size < w6.heap.size := by omega
            have o9 : wr.heap.size + 1 < w6.heap.size := by omega
            have HF := hid (show arr fa' = #[.pointer r0, .pointer r1, .pointer r2, .pointer r3] from harr)
            have HS6 := hid F.s
            have HPre := hid F.pre
            have HC6 := hid (hCt.mono (fun q hq => hq.elim) |>.step F.ch)
            have HSt := hid hSt
            obtain ⟨Wf, hWf⟩ : ∃ Wf, Wf = w6.alloc (.cells #[.pointer r0, .pointer r1, .pointer r2, .pointer r3] 31) := ⟨_, rfl⟩
            have HWf := hid hWf
            have HUs := hid hus
            have HMl := hid hM.len
            have HNm := hid hM.nm
            have HMb := hid hM.bel
            have HBel : Hid (Below w.heap.size w w6) := Ch.below hM.bel HC6.out hM.s.sz (by rintro q (hq | rfl | rfl); exact hM.s.tch_lo q hq; omega; omega)
            have HUlen := hid hUl
            clear HT HW HY hTP F hCt y1 hBx y2 y4 hSt hB6 hbf hab6 hr0 hr1 hr2 hr3 harr hWf hus hUl hM t0 t1 t2 t3
            go_upto_region 31 with fail
            rw [← HWf.out]
            have hSf : S w.heap.size pb mb Uf fa' (.slice (some ⟨cs, 0, none⟩) 4 4) uvf (wrap64 (start + dx)) (wrap64 (sdepth + dy)) Wf := by rw [HWf.out]; exact HS6.out.alloc _
            have hwb : Wf.heap[w6.heap.size]? = some (.cells (arr fa') 31 (0, 0)) := by rw [HWf.out, HF.out]; exact heap_alloc_new _ _
            have hbf : Below w.heap.size w Wf := by rw [HWf.out]; exact HBel.out.alloc (Nat.le_trans HMb.out.size HC6.out.size) _
            have d1f : Wf.cell? ⟨vb, 0, none⟩ = some (.pointer (some ⟨pb, 0, none⟩)) := by rw [HWf.out]; exact keep_alloc _ d1
            have e4f : Wf.cell? ⟨pb, 4, none⟩ = some (.map (some mb)) := by rw [HWf.out]; exact keep_alloc _ e4
            have e5f : Wf.cell? ⟨pb, 5, none⟩ = some (.slice ua (i + kk) uc) := by rw [HWf.out]; exact keep_alloc _ e5
            have HSf := hid hSf
            have HWb := hid hwb
            have HBf := hid hbf
            have HD1 := hid d1f
            have HE5 := hid e5f
            have hnp := fun (W : World) (a : Addr) => Lib.run_neq_ptr_same (P := Yba.prog) (w := W) a Yba.underlying30 hi36
            generalize w6.heap.size = wb at *
            clear hSf hwb hbf u0 u1 u2 u3 d1 d2 d3 d4 d5 d6 e1 e4 e5 e6 o1 o2 o3 o4 o5 o6 o7 o8 o9 HWf HF HBel HMb HC6 HSt HS6 HM c1 c2 c3
            go_wp2_with fail
            go_loopg [30, 31] 4 (fun k s30 s31 wx => ∃ j : Nat, j + k = 4 ∧ s31 = .int .i64 j ∧ s30 = .int .i64 (cn fa' j : Nat) ∧ ∃ n, wx = Wf.drewN n)
            case atStart => exact ⟨0, by omega, rfl, rfl, 0, rfl⟩
            case round =>
              obtain ⟨j, hjk, rfl, rfl, n, hn⟩ := hrel
              have hSr : S w.heap.size pb mb Uf fa' (.slice (some ⟨cs, 0, none⟩) 4 4) uvf (wrap64 (start + dx)) (wrap64 (sdepth + dy)) wr := by rw [hn]; exact HSf.out.drewN n
              have hcw : ∀ {p : Addr} {v : Value}, Wf.cell? p = some v → wr.cell? p = some v := fun h => by rw [hn]; exact h
              have HNn := hid hn
              have r1 := hcw d1f
              have r4 := hcw e4f
              have r5 := hcw e5f
              have hcn := cn_le fa' j
              by_cases hj : j < 4
              · have HN : Hid (∀ W, Calls Yba.prog 5 #[.int .u8 (j : Int)] W fun e w' => e = .returned (.string (nameB j)) ∧ w' = W) := by
                  intro W
                  have h := name5 (j : Int) (by omega) (by omega) W
                  rw [show ((j : Int) % 4).toNat = j by omega] at h
                  exact h
                have hlk : ∀ m, (Instr.lookup 24 (.map (some mb)) (.string (nameB j)) true).run Yba.prog (wr.drewN m) = .ok (.tuple #[ptrV (fa' j), .bool (fa' j).isSome]) (wr.drewN m) := fun m => (hSr.drewN m).lookOk hj
                have cw : wr.cell? ⟨wb, j, none⟩ = some (ptrV (fa' j)) := hcw (cell_block HWb.out (arr_get fa' hj))
                have hcs := cn_succ fa' j
                have hji : (j : Int) < 4 := by omega
                cases hfj : fa' j with
                | none =>
                  rw [hfj] at hlk cw hcs
                  have hlk' : ∀ m, (Instr.lookup 24 (.map (some mb)) (.string (nameB j)) true).run Yba.prog (wr.drewN m) = .ok (.tuple #[.pointer none, .bool false]) (wr.drewN m) := hlk
                  have cw' : wr.cell? ⟨wb, j, none⟩ = some (.pointer none) := cw
                  have HCs := hid hcs
                  clear hlk cw hcs hfj hn hSr d1f e4f e5f hcw
                  go_upto_region 35 with fail
                  go_big_quiet ((go_at_call 5; refine Calls.quiet_of_same (HN.out _)))
                  go_wp2
                  go_roundg (4 - (j + 1))
                  case measure => omega
                  case rel => exact ⟨j + 1, by omega, by go_num, by rw [HCs.out]; simp [c1], _, by rw [HNn.out]; exact World.drewN_drewN _ _ _⟩
                | some b =>
                  rw [hfj] at hlk cw hcs
                  have hlk' : ∀ m, (Instr.lookup 24 (.map (some mb)) (.string (nameB j)) true).run Yba.prog (wr.drewN m) = .ok (.tuple #[.pointer (some ⟨b, 0, none⟩), .bool true]) (wr.drewN m) := hlk
                  have cw' : wr.cell? ⟨wb, j, none⟩ = some (.pointer (some ⟨b, 0, none⟩)) := cw
                  have HCs := hid hcs
                  clear hlk cw hcs hfj hn hSr d1f e4f e5f hcw
                  go_upto_region 35 with fail
                  go_big_quiet ((go_at_call 5; refine Calls.quiet_of_same (HN.out _)))
                  go_wp2
                  go_roundg (4 - (j + 1))
                  case measure => omega
                  case rel => exact ⟨j + 1, by omega, by go_num, by rw [HCs.out]; simp [c1], _, by rw [HNn.out]; exact World.drewN_drewN _ _ _⟩
              · obtain rfl : j = 4 := by omega
                have hc4 : cn fa' 4 = cnt4 fa' := cn_four _
                have hlen := hSr.len 3
                clear hcn hSr hn hcw d1f e4f e5f
                go_upto_region 42 with fail
                clear hlen hc4 r1 r4 r5
                go_wp2_with fail
                go_loopg [34] i (fun k s34 wx => ∃ t : Nat, t + k = i ∧ s34 = .int .i64 t ∧ ∃ n, wx = Wf.drewN n)
                case atStart => exact ⟨0, by omega, rfl, n, HNn.out⟩
                case round =>
                  obtain ⟨t, htk, rfl, n', hn'⟩ := hrel
                  have hcw : ∀ {p : Addr} {v : Value}, Wf.cell? p = some v → wr.cell? p = some v := fun h => by rw [hn']; exact h
                  have HN' := hid hn'
                  by_cases ht : t < i
                  · obtain ⟨x, hsa, hxB, hcx⟩ := H2.out t ht
                    obtain ⟨hz0, hz1⟩ := G2.out t ht
                    have hpre := HPre.out t (by rw [HMl.out]; exact ht)
                    have hnm := HNm.out t (by rw [HMl.out]; exact ht)
                    rw [← hpre] at hnm
                    obtain ⟨⟨j', o'⟩, hU1, hU2⟩ := Option.map_eq_some_iff.1 hnm
                    obtain ⟨g, cap, hus2, -, -⟩ := HSf.out.slice (by rintro rfl; simp at hU1)
                    have hrc := HSf.out.row.cells (g := g) (by rw [hus2]; rfl) _ _ (uC_get hU1)
                    rw [add0] at hrc
                    have e := HUs.out.symm.trans hus2
                    injection e with e1 e2 e3
                    have HN : Hid (∀ W, Calls Yba.prog 5 #[.int .u8 (z2 t)] W fun e w' => e = .returned (.string (nameB j')) ∧ w' = W) := by
                      intro W
                      have h := name5 (z2 t) hz0 hz1 W
                      have hU2' : j' = (z2 t % 4).toNat := hU2
                      rw [← hU2'] at h
                      exact h
                    have r1 := hcw HD1.out
                    have r5 := hcw HE5.out
                    have rc := hcw hrc
                    have rx := hcw ((HBf.out.cell (p := x.add t) (by rw [add_block]; exact hxB)).trans hcx)
                    rw [e1] at r5
                    subst hsa
                    clear hpre hnm hU1 hU2 hus2 hrc e1 e2 e3 hcw hn' hcx
                    go_upto_region 45 with fail
                    go_big_quiet ((go_at_call 5; refine Calls.quiet_of_same (HN.out _)))
                    go_wp2
                    go_roundg (i - (t + 1))
                    case measure => omega
                    case rel => exact ⟨t + 1, by omega, by go_num, _, by rw [HN'.out]; exact World.drewN_drewN _ _ _⟩
                  · obtain rfl : t = i := by omega
                    clear hcw hn'
                    go_wp2
                    go_ret
                    exact ⟨rfl, by rw [HN'.out]; exact ⟨HBf.out.os, HBf.out.tape, HBf.out.output, HBf.out.size, HBf.out.block⟩⟩
          | true =>
            have hmod := hkt rfl
            clear hkt hkf
            have hn0 : ¬ ((n3 : Int) + 1 = 0) := by omega
            go_upto_region 18 with (go_at_call 6; refine HT.out.mono ?_; rintro e w6 ⟨rfl, hTP⟩)
            rw [← HW.out] at hTP
            obtain ⟨Uf, ff, fa', uvf, posf, depthf, F⟩ := hTP.fin
            obtain ⟨rfl, rfl, rfl, hUl⟩ := F.no rfl
            obtain ⟨hCt, y1, hBx, y2, y4⟩ := HY.out
            have hM := HM.out
            have hSt := hM.s.ch hCt (fun q hq => hq.elim)
            have hB6 := hBx.ch F.ch (hSt.notRch hBx.k (by decide) (by decide) (by omega) (by omega)) (hSt.notRch hBx.v (by decide) (by decide) (by omega) (by omega)) (hSt.notRch hBx.s (by decide) (by decide) (by omega) (by omega)) (hSt.notRch hBx.x (by decide) (by decide) (by omega) (by omega)) (hSt.notRch hBx.y (by decide) (by decide) (by omega) (by omega)) (hSt.notRch hBx.fl (by decide) (by decide) (by omega) (by omega))
            have hbf := F.ch.at y1 (hSt.notRch y1 (by decide) (by decide) (by omega) (by omega))
            have hab6 := F.hab
            obtain ⟨r0, hr0⟩ : ∃ p, ptrV (fa' 0) = .pointer p := by cases fa' 0 <;> exact ⟨_, rfl⟩
            obtain ⟨r1, hr1⟩ : ∃ p, ptrV (fa' 1) = .pointer p := by cases fa' 1 <;> exact ⟨_, rfl⟩
            obtain ⟨r2, hr2⟩ : ∃ p, ptrV (fa' 2) = .pointer p := by cases fa' 2 <;> exact ⟨_, rfl⟩
            obtain ⟨r3, hr3⟩ : ∃ p, ptrV (fa' 3) = .pointer p := by cases fa' 3 <;> exact ⟨_, rfl⟩
            have harr : arr fa' = #[.pointer r0, .pointer r1, .pointer r2, .pointer r3] := by unfold arr; rw [hr0, hr1, hr2, hr3]
            rw [harr] at hab6
            have u0 : w6.cell? ⟨wr.heap.size + 1, 0, none⟩ = some (.pointer r0) := cell_block hab6 rfl
            have u1 : w6.cell? ⟨wr.heap.size + 1, 1, none⟩ = some (.pointer r1) := cell_block hab6 rfl
            have u2 : w6.cell? ⟨wr.heap.size + 1, 2, none⟩ = some (.pointer r2) := cell_block hab6 rfl
            have u3 : w6.cell? ⟨wr.heap.size + 1, 3, none⟩ = some (.pointer r3) := cell_block hab6 rfl
            obtain ⟨p0', hp0'⟩ : ∃ p, ptrV (ff 0) = .pointer p := by cases ff 0 <;> exact ⟨_, rfl⟩
            obtain ⟨p1', hp1'⟩ : ∃ p, ptrV (ff 1) = .pointer p := by cases ff 1 <;> exact ⟨_, rfl⟩
            obtain ⟨p2', hp2'⟩ : ∃ p, ptrV (ff 2) = .pointer p := by cases ff 2 <;> exact ⟨_, rfl⟩
            obtain ⟨p3', hp3'⟩ : ∃ p, ptrV (ff 3) = .pointer p := by cases ff 3 <;> exact ⟨_, rfl⟩
            have harr2 : arr ff = #[.pointer p0', .pointer p1', .pointer p2', .pointer p3'] := by unfold arr; rw [hp0', hp1', hp2', hp3']
            rw [harr2] at hbf
            have v0 : w6.cell? ⟨wr.heap.size, 0, none⟩ = some (.pointer p0') := cell_block hbf rfl
            have v1 : w6.cell? ⟨wr.heap.size, 1, none⟩ = some (.pointer p1') := cell_block hbf rfl
            have v2 : w6.cell? ⟨wr.heap.size, 2, none⟩ = some (.pointer p2') := cell_block hbf rfl
            have v3 : w6.cell? ⟨wr.heap.size, 3, none⟩ = some (.pointer p3') := cell_block hbf rfl
            have d1 : w6.cell? ⟨vb, 0, none⟩ = some (.pointer (some ⟨pb, 0, none⟩)) := cell_block hB6.v rfl
            have d2 : w6.cell? ⟨xb, 0, none⟩ = some (.int .i64 dx) := cell_block hB6.x rfl
            have d3 : w6.cell? ⟨yb, 0, none⟩ = some (.int .i64 dy) := cell_block hB6.y rfl
            have d4 : w6.cell? ⟨wr.heap.size + 1 + 1, 0, none⟩ = some (.int .i64 (kk : Int)) := cell_block hB6.k rfl
            have d5 : w6.cell? ⟨fb, 0, none⟩ = some (.bool true) := cell_block hB6.fl rfl
            have d6 : w6.cell? ⟨wr.heap.size + 1 + 1 + 1, 0, none⟩ = some (.int .i64 1) := cell_block F.hcb rfl
            obtain ⟨ua, uc, hus⟩ := F.s.isSlice
            rw [hUl, hM.len] at hus
            have e1 : w6.cell? ⟨pb, 1, none⟩ = some (.int .i64 (posf)) := cell_block F.s.blk rfl
            have e4 : w6.cell? ⟨pb, 4, none⟩ = some (.map (some mb)) := cell_block F.s.blk rfl
            have e5 : w6.cell? ⟨pb, 5, none⟩ = some uvf := cell_block F.s.blk rfl
            have e6 : w6.cell? ⟨pb, 6, none⟩ = some (.int .i64 (depthf)) := cell_block F.s.blk rfl
            rw [hus] at e5
            have o1 : vb < w6.heap.size := lt_block hB6.v
            have o2 : xb < w6.heap.size := lt_block hB6.x
            have o3 : yb < w6.heap.size := lt_block hB6.y
            have o4 : wr.heap.size + 1 + 1 < w6.heap.size := lt_block hB6.k
            have o5 : fb < w6.heap.size := lt_block hB6.fl
            have o6 : wr.heap.size + 1 + 1 + 1 < w6.heap.size := lt_block F.hcb
            have o7 : pb < w6.heap.size := lt_block F.s.blk
            have o8 : wr.heap.size < w6.heap.size := by omega
            have o9 : wr.heap.size + 1 < w6.heap.size := by omega
            have HF := hid (show arr ff = #[.pointer p0', .pointer p1', .pointer p2', .pointer p3'] from harr2)
            have HS6 := hid F.s
            have HPre := hid F.pre
            have HC6 := hid (hCt.mono (fun q hq => hq.elim) |>.step F.ch)
            have HSt := hid hSt
            obtain ⟨Wf, hWf⟩ : ∃ Wf, Wf = w6.alloc (.cells #[.pointer p0', .pointer p1', .pointer p2', .pointer p3'] 31) := ⟨_, rfl⟩
            have HWf := hid hWf
            have HUs := hid hus
            have HMl := hid hM.len
            have HNm := hid hM.nm
            have HMb := hid hM.bel
            have HBel : Hid (Below w.heap.size w w6) := Ch.below hM.bel HC6.out hM.s.sz (by rintro q (hq | rfl | rfl); exact hM.s.tch_lo q hq; omega; omega)
            have HUlen := hid hUl
            clear HT HW HY hTP F hCt y1 hBx y2 y4 hSt hB6 hbf hab6 hr0 hr1 hr2 hr3 harr hWf hus hUl hp0' hp1' hp2' hp3' harr2 hM t0 t1 t2 t3
            go_upto_region 31 with fail
            rw [← HWf.out]
            have hSf : S w.heap.size pb mb Uf ff (.slice (some ⟨cs, 0, none⟩) 4 4) uvf posf depthf Wf := by rw [HWf.out]; exact HS6.out.alloc _
            have hwb : Wf.heap[w6.heap.size]? = some (.cells (arr ff) 31 (0, 0)) := by rw [HWf.out, HF.out]; exact heap_alloc_new _ _
            have hbf : Below w.heap.size w Wf := by rw [HWf.out]; exact HBel.out.alloc (Nat.le_trans HMb.out.size HC6.out.size) _
            have d1f : Wf.cell? ⟨vb, 0, none⟩ = some (.pointer (some ⟨pb, 0, none⟩)) := by rw [HWf.out]; exact keep_alloc _ d1
            have e4f : Wf.cell? ⟨pb, 4, none⟩ = some (.map (some mb)) := by rw [HWf.out]; exact keep_alloc _ e4
            have e5f : Wf.cell? ⟨pb, 5, none⟩ = some (.slice ua (i) uc) := by rw [HWf.out]; exact keep_alloc _ e5
            have HSf := hid hSf
            have HWb := hid hwb
            have HBf := hid hbf
            have HD1 := hid d1f
            have HE5 := hid e5f
            have hnp := fun (W : World) (a : Addr) => Lib.run_neq_ptr_same (P := Yba.prog) (w := W) a Yba.underlying30 hi36
            generalize w6.heap.size = wb at *
            clear hSf hwb hbf u0 u1 u2 u3 d1 d2 d3 d4 d5 d6 e1 e4 e5 e6 o1 o2 o3 o4 o5 o6 o7 o8 o9 HWf HF HBel HMb HC6 HSt HS6 HM c1 c2 c3 v0 v1 v2 v3
            go_wp2_with fail
            go_loopg [30, 31] 4 (fun k s30 s31 wx => ∃ j : Nat, j + k = 4 ∧ s31 = .int .i64 j ∧ s30 = .int .i64 (cn ff j : Nat) ∧ ∃ n, wx = Wf.drewN n)
            case atStart => exact ⟨0, by omega, rfl, rfl, 0, rfl⟩
            case round =>
              obtain ⟨j, hjk, rfl, rfl, n, hn⟩ := hrel
              have hSr : S w.heap.size pb mb Uf ff (.slice (some ⟨cs, 0, none⟩) 4 4) uvf posf depthf wr := by rw [hn]; exact HSf.out.drewN n
              have hcw : ∀ {p : Addr} {v : Value}, Wf.cell? p = some v → wr.cell? p = some v := fun h => by rw [hn]; exact h
              have HNn := hid hn
              have r1 := hcw d1f
              have r4 := hcw e4f
              have r5 := hcw e5f
              have hcn := cn_le ff j
              by_cases hj : j < 4
              · have HN : Hid (∀ W, Calls Yba.prog 5 #[.int .u8 (j : Int)] W fun e w' => e = .returned (.string (nameB j)) ∧ w' = W) := by
                  intro W
                  have h := name5 (j : Int) (by omega) (by omega) W
                  rw [show ((j : Int) % 4).toNat = j by omega] at h
                  exact h
                have hlk : ∀ m, (Instr.lookup 24 (.map (some mb)) (.string (nameB j)) true).run Yba.prog (wr.drewN m) = .ok (.tuple #[ptrV (ff j), .bool (ff j).isSome]) (wr.drewN m) := fun m => (hSr.drewN m).lookOk hj
                have cw : wr.cell? ⟨wb, j, none⟩ = some (ptrV (ff j)) := hcw (cell_block HWb.out (arr_get ff hj))
                have hcs := cn_succ ff j
                have hji : (j : Int) < 4 := by omega
                cases hfj : ff j with
                | none =>
                  rw [hfj] at hlk cw hcs
                  have hlk' : ∀ m, (Instr.lookup 24 (.map (some mb)) (.string (nameB j)) true).run Yba.prog (wr.drewN m) = .ok (.tuple #[.pointer none, .bool false]) (wr.drewN m) := hlk
                  have cw' : wr.cell? ⟨wb, j, none⟩ = some (.pointer none) := cw
                  have HCs := hid hcs
                  clear hlk cw hcs hfj hn hSr d1f e4f e5f hcw
                  go_upto_region 35 with fail
                  go_big_quiet ((go_at_call 5; refine Calls.quiet_of_same (HN.out _)))
                  go_wp2
                  go_roundg (4 - (j + 1))
                  case measure => omega
                  case rel => exact ⟨j + 1, by omega, by go_num, by rw [HCs.out]; simp [c1], _, by rw [HNn.out]; exact World.drewN_drewN _ _ _⟩
                | some b =>
                  rw [hfj] at hlk cw hcs
                  have hlk' : ∀ m, (Instr.lookup 24 (.map (some mb)) (.string (nameB j)) true).run Yba.prog (wr.drewN m) = .ok (.tuple #[.pointer (some ⟨b, 0, none⟩), .bool true]) (wr.drewN m) := hlk
                  have cw' : wr.cell? ⟨wb, j, none⟩ = some (.pointer (some ⟨b, 0, none⟩)) := cw
                  have HCs := hid hcs
                  clear hlk cw hcs hfj hn hSr d1f e4f e5f hcw
                  go_upto_region 35 with fail
                  go_big_quiet ((go_at_call 5; refine Calls.quiet_of_same (HN.out _)))
                  go_wp2
                  go_roundg (4 - (j + 1))
                  case measure => omega
                  case rel => exact ⟨j + 1, by omega, by go_num, by rw [HCs.out]; simp [c1], _, by rw [HNn.out]; exact World.drewN_drewN _ _ _⟩
              · obtain rfl : j = 4 := by omega
                have hc4 : cn ff 4 = cnt4 ff := cn_four _
                have hlen := hSr.len 3
                clear hcn hSr hn hcw d1f e4f e5f
                go_upto_region 42 with fail
                clear hlen hc4 r1 r4 r5
                go_wp2_with fail
                go_loopg [34] i (fun k s34 wx => ∃ t : Nat, t + k = i ∧ s34 = .int .i64 t ∧ ∃ n, wx = Wf.drewN n)
                case atStart => exact ⟨0, by omega, rfl, n, HNn.out⟩
                case round =>
                  obtain ⟨t, htk, rfl, n', hn'⟩ := hrel
                  have hcw : ∀ {p : Addr} {v : Value}, Wf.cell? p = some v → wr.cell? p = some v := fun h => by rw [hn']; exact h
                  have HN' := hid hn'
                  by_cases ht : t < i
                  · obtain ⟨x, hsa, hxB, hcx⟩ := H2.out t ht
                    obtain ⟨hz0, hz1⟩ := G2.out t ht
                    have hpre := HPre.out t (by rw [HMl.out]; exact ht)
                    have hnm := HNm.out t (by rw [HMl.out]; exact ht)
                    rw [← hpre] at hnm
                    obtain ⟨⟨j', o'⟩, hU1, hU2⟩ := Option.map_eq_some_iff.1 hnm
                    obtain ⟨g, cap, hus2, -, -⟩ := HSf.out.slice (by rintro rfl; simp at hU1)
                    have hrc := HSf.out.row.cells (g := g) (by rw [hus2]; rfl) _ _ (uC_get hU1)
                    rw [add0] at hrc
                    have e := HUs.out.symm.trans hus2
                    injection e with e1 e2 e3
                    have HN : Hid (∀ W, Calls Yba.prog 5 #[.int .u8 (z2 t)] W fun e w' => e = .returned (.string (nameB j')) ∧ w' = W) := by
                      intro W
                      have h := name5 (z2 t) hz0 hz1 W
                      have hU2' : j' = (z2 t % 4).toNat := hU2
                      rw [← hU2'] at h
                      exact h
                    have r1 := hcw HD1.out
                    have r5 := hcw HE5.out
                    have rc := hcw hrc
                    have rx := hcw ((HBf.out.cell (p := x.add t) (by rw [add_block]; exact hxB)).trans hcx)
                    rw [e1] at r5
                    subst hsa
                    clear hpre hnm hU1 hU2 hus2 hrc e1 e2 e3 hcw hn' hcx
                    go_upto_region 45 with fail
                    go_big_quiet ((go_at_call 5; refine Calls.quiet_of_same (HN.out _)))
                    go_wp2
                    go_roundg (i - (t + 1))
                    case measure => omega
                    case rel => exact ⟨t + 1, by omega, by go_num, _, by rw [HN'.out]; exact World.drewN_drewN _ _ _⟩
                  · obtain rfl : t = i := by omega
                    clear hcw hn'
                    go_wp2
                    go_ret
                    exact ⟨rfl, by rw [HN'.out]; exact ⟨HBf.out.os, HBf.out.tape, HBf.out.output, HBf.out.size, HBf.out.block⟩⟩

end Go.Proofs.Ybulkbgos
