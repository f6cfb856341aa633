/-
  (*records).nextLong (15): a long record is read; or none is left.
-/
import Derived.Test.YbulkbgkkDoorRead
import Derived.Deep.RegionWith
import Derived.Deep.DeepCutAuto
namespace Go.Proofs.YbulkbgkkDoor
open Go.RowKit
set_option linter.unusedSimpArgs false
set_option linter.unusedVariables false

theorem wrap_small {n : Nat} (h : n < 4294967296) : IntKind.i64.wrap (n : Int) = n := by rw [IntKind.wrap_i64]; omega

theorem hid {p : Prop} (h : p) : Hid p := h

/-- The cursor's 23 cells. -/
def curA (id key cnt mx : Int) (ok : Bool) (bv : Value) (rat rkey rcnt rmx : Int) (rok : Bool) (pos : Int) : Array Value :=
  #[.int .u32 id, .int .u32 key, .int .i64 cnt, .int .i64 mx, .pointer none, .bool ok, .pointer none, bv, .int .i64 rat, .int .u32 rkey, .int .i64 rcnt, .int .i64 rmx, .bool rok, .slice none 0 0, .int .i64 pos,
    .pointer none, .pointer none, .int .u64 0, .int .i64 0, .int .i64 0, .slice none 0 0, .int .i64 0, .int .u64 0]

section
variable {a b c : World} {row : Option Nat}
theorem gb_refl (a : World) (row : Option Nat) : a.grownBy a row := ⟨rfl, rfl, rfl, Nat.le_refl _, fun _ _ _ => rfl⟩
theorem gb_trans (h1 : a.grownBy b row) (h2 : b.grownBy c row) : a.grownBy c row :=
  ⟨h2.os.trans h1.os, h2.tape.trans h1.tape, h2.output.trans h1.output, Nat.le_trans h1.size h2.size, fun k hk hn => (h2.block k (Nat.lt_of_lt_of_le hk h1.size) hn).trans (h1.block k hk hn)⟩
theorem gb_drew (h : a.grownBy b row) : a.grownBy b.drew row := ⟨h.os, h.tape, h.output, h.size, h.block⟩
theorem gb_undrew (h : a.drew.grownBy b row) : a.grownBy b row := ⟨h.os, h.tape, h.output, h.size, h.block⟩
theorem gb_alloc (o : Obj) (h : a.grownBy b row) : a.grownBy (b.alloc o) row := gb_trans h (World.grownBy_alloc b o row)
theorem gb_set {C : Nat} (i : Nat) (v : Value) (h : a.grownBy b (some C)) : a.grownBy (b.setCell ⟨C, i, none⟩ v) (some C) :=
  gb_trans h ⟨rfl, rfl, rfl, by simp [World.setCell], fun k _ hn => Below.heap_setCell _ _ _ _ (fun e => hn (by rw [e]))⟩
end

theorem set_block {w : World} {C t i : Nat} {A : Array Value} {fr : Nat × Nat} {v : Value} (h : w.heap[C]? = some (.cells A t fr)) : (w.setCell ⟨C, i, none⟩ v).heap[C]? = some (.cells (A.setIfInBounds i v) t fr) := by
  have hlt := (Array.getElem?_eq_some_iff.1 h).1
  have h' : w.heap[C] = .cells A t fr := by simpa [Array.getElem?_eq_getElem hlt] using h
  show (w.heap.modify C _)[C]? = _
  rw [Array.getElem?_eq_getElem (by simpa using hlt), Array.getElem_modify_self, h']
  rfl

theorem cur_cells {w : World} {C : Nat} {id key cnt mx : Int} {ok : Bool} {bv : Value} {rat rkey rcnt rmx : Int} {rok : Bool} {pos : Int} (h : w.heap[C]? = some (.cells (curA id key cnt mx ok bv rat rkey rcnt rmx rok pos) 41 (0, 0))) :
    w.cell? ⟨C, 0, none⟩ = some (.int .u32 id) ∧ w.cell? ⟨C, 1, none⟩ = some (.int .u32 key) ∧ w.cell? ⟨C, 2, none⟩ = some (.int .i64 cnt) ∧ w.cell? ⟨C, 3, none⟩ = some (.int .i64 mx) ∧ w.cell? ⟨C, 4, none⟩ = some (.pointer none) ∧ w.cell? ⟨C, 5, none⟩ = some (.bool ok) ∧ w.cell? ⟨C, 6, none⟩ = some (.pointer none) ∧ w.cell? ⟨C, 7, none⟩ = some (bv) ∧ w.cell? ⟨C, 8, none⟩ = some (.int .i64 rat) ∧ w.cell? ⟨C, 9, none⟩ = some (.int .u32 rkey) ∧ w.cell? ⟨C, 10, none⟩ = some (.int .i64 rcnt) ∧ w.cell? ⟨C, 11, none⟩ = some (.int .i64 rmx) ∧ w.cell? ⟨C, 12, none⟩ = some (.bool rok) ∧ w.cell? ⟨C, 13, none⟩ = some (.slice none 0 0) ∧ w.cell? ⟨C, 14, none⟩ = some (.int .i64 pos) ∧ w.cell? ⟨C, 15, none⟩ = some (.pointer none) :=
  ⟨cell_block h rfl, cell_block h rfl, cell_block h rfl, cell_block h rfl, cell_block h rfl, cell_block h rfl, cell_block h rfl, cell_block h rfl, cell_block h rfl, cell_block h rfl, cell_block h rfl, cell_block h rfl, cell_block h rfl, cell_block h rfl, cell_block h rfl, cell_block h rfl⟩

theorem frozen_block {w : World} {C t i : Nat} {A : Array Value} (h : w.heap[C]? = some (.cells A t (0, 0))) : w.frozen? ⟨C, i, none⟩ = false := by
  simp [World.frozen?, h]

theorem alloc_block {w : World} {C : Nat} {o : Obj} {x : Obj} (h : w.heap[C]? = some x) : (w.alloc o).heap[C]? = some x := by
  rw [Below.heap_alloc _ _ _ (Array.getElem?_eq_some_iff.1 h).1]; exact h

set_option maxHeartbeats 1000000 in
set_option maxRecDepth 100000 in
theorem nextLong_rec (C g rat n cap : Nat) (r : Rec) (hr : r.ok) (id key cnt mx : Int) (ok : Bool) (rkey : Nat) (rcnt rmx : Int) (rok : Bool) (pos : Int) (w : World)
    (hk : rkey < 4294967296)
    (hC : w.heap[C]? = some (.cells (curA id key cnt mx ok (.slice (some ⟨g, 0, none⟩) n cap) rat rkey rcnt rmx rok pos) 41 (0, 0))) (hgC : g ≠ C) (hg : g < w.heap.size) (hn : rat + 13 ≤ n) (hcap : n ≤ cap) (hbig : n ≤ 13312)
    (hb : ∀ j v, (longBytes r)[j]? = some v → w.cell? ⟨g, rat + j, none⟩ = some (.int .u8 v)) :
    Calls Ybad.prog 15 #[.pointer (some ⟨C, 7, none⟩)] w fun e w' => e = .returned (.tuple #[]) ∧
      w'.heap[C]? = some (.cells (curA id key cnt mx ok (.slice (some ⟨g, 0, none⟩) n cap) (rat + 13) ((rkey + r.g) % 4294967296) r.c r.m true pos) 41 (0, 0)) ∧ w.grownBy w' (some C) := by
  obtain ⟨o1, o2, o3⟩ := hr
  obtain ⟨k0, k1, k2, k3, k4, k5, k6, k7, k8, k9, k10, k11, k12, k13, k14, k15⟩ := cur_cells hC
  clear k0 k1 k2 k3 k4 k5 k6 k13 k14 k15
  have f8 := frozen_block (i := 8) hC
  have f9 := frozen_block (i := 9) hC
  have f10 := frozen_block (i := 10) hC
  have f11 := frozen_block (i := 11) hC
  have f12 := frozen_block (i := 12) hC
  have hCs := (Array.getElem?_eq_some_iff.1 hC).1
  have ht : ((rat : Int) == (n : Int)) = false := by simp; omega
  have hb2 : ∀ wx : World, w.grownBy wx (some C) → ∀ j v, (longBytes r)[j]? = some v → wx.cell? ⟨g, rat + j, none⟩ = some (.int .u8 v) := fun wx h j v hv => h.cell (hb j v hv) (by simpa using hgC)
  have HB : Hid (∀ wx : World, w.grownBy wx (some C) → ∀ j v, (longBytes r)[j]? = some v → wx.cell? ⟨g, rat + j, none⟩ = some (.int .u8 v)) := hb2
  clear hb hb2
  have G0 : Hid (w.grownBy w (some C)) := gb_refl _ _
  have hU := u32_any g (rat + 1) (n - rat - 1) (cap - rat - 1) r.g o1 w.drew.drew.drew (by omega) (HB.out _ G0.out 1 _ rfl) (HB.out _ G0.out 2 _ rfl) (HB.out _ G0.out 3 _ rfl) (HB.out _ G0.out 4 _ rfl) hg
  have HU := hid hU
  clear hU
  have i1 : (1 : Int) ≤ ((n - rat : Nat) : Int) := by omega
  have i5 : (5 : Int) ≤ ((n - rat : Nat) : Int) := by omega
  have i9 : (9 : Int) ≤ ((n - rat : Nat) : Int) := by omega
  have j1 : ¬ cap - rat = 1 := by omega
  have j5 : ¬ cap - rat = 5 := by omega
  have j9 : ¬ cap - rat = 9 := by omega
  go_enter Ybad.func15, Ybad.ntmps15
  go_wp2
  go_region
  go_wp2
  go_region
  go_wp2
  go_upto_region 3 with fail
  go_cut [] (fun wx => wx.heap[C]? = some (.cells (curA id key cnt mx ok (.slice (some ⟨g, 0, none⟩) n cap) rat ((rkey + r.g) % 4294967296) rcnt rmx rok pos) 41 (0, 0)) ∧ w.grownBy wx (some C))
  case first =>
    go_region_with (go_at_call 19; refine HU.out.mono ?_; rintro e w' ⟨rfl, rfl⟩)
    all_goals (go_wp2_with fail; go_meet; exact ⟨(alloc_block (set_block hC)).trans (by rw [IntKind.wrap_u32]; rfl), gb_drew (gb_drew (gb_drew (gb_drew (gb_alloc _ (gb_set 9 _ (gb_refl _ _))))))⟩)
  case rest =>
  obtain ⟨hC1, hG1⟩ := hcut
  clear HU k7 k8 k9 k10 k11 k12 f8 f9 f10 f11 f12 hC G0
  have HG1 := hid hG1
  have hg1 : g < wc.heap.size := Nat.lt_of_lt_of_le hg hG1.size
  have hCs1 : C < wc.heap.size := Nat.lt_of_lt_of_le hCs hG1.size
  clear hG1
  obtain ⟨k0, k1, k2, k3, k4, k5, k6, k7, k8, k9, k10, k11, k12, k13, k14, k15⟩ := cur_cells hC1
  have f10 := frozen_block (i := 10) hC1
  clear k0 k1 k2 k3 k4 k5 k6 k13 k14 k15 k7 k8 k9 k11 k12
  have HU := hid (u32_any g (rat + 5) (n - rat - 5) (cap - rat - 5) r.c o2 wc.drew (by omega) (HB.out _ HG1.out 5 _ rfl) (HB.out _ HG1.out 6 _ rfl) (HB.out _ HG1.out 7 _ rfl) (HB.out _ HG1.out 8 _ rfl) hg1)
  go_upto_region 4 with fail
  go_cut [] (fun wx => wx.heap[C]? = some (.cells (curA id key cnt mx ok (.slice (some ⟨g, 0, none⟩) n cap) rat ((rkey + r.g) % 4294967296) r.c rmx rok pos) 41 (0, 0)) ∧ w.grownBy wx (some C))
  case first =>
    go_region_with (go_at_call 19; refine HU.out.mono ?_; rintro e w' ⟨rfl, rfl⟩)
    all_goals (go_wp2_with fail; go_meet; exact ⟨(alloc_block (set_block hC1)).trans (by rw [wrap_small o2]; rfl), gb_trans HG1.out (gb_drew (gb_drew (gb_alloc _ (gb_set 10 _ (gb_refl _ _)))))⟩)
  case rest =>
  obtain ⟨hC2, hG2⟩ := hcut
  clear HU k10 f10 hC1 HG1 hg1 hCs1
  have HG2 := hid hG2
  have hg2 : g < wc.heap.size := Nat.lt_of_lt_of_le hg hG2.size
  have hCs2 : C < wc.heap.size := Nat.lt_of_lt_of_le hCs hG2.size
  clear hG2
  obtain ⟨k0, k1, k2, k3, k4, k5, k6, k7, k8, k9, k10, k11, k12, k13, k14, k15⟩ := cur_cells hC2
  have f11 := frozen_block (i := 11) hC2
  clear k0 k1 k2 k3 k4 k5 k6 k13 k14 k15 k7 k8 k9 k10 k12
  have HU := hid (u32_any g (rat + 9) (n - rat - 9) (cap - rat - 9) r.m o3 wc.drew (by omega) (HB.out _ HG2.out 9 _ rfl) (HB.out _ HG2.out 10 _ rfl) (HB.out _ HG2.out 11 _ rfl) (HB.out _ HG2.out 12 _ rfl) hg2)
  go_upto_region 5 with fail
  go_cut [] (fun wx => wx.heap[C]? = some (.cells (curA id key cnt mx ok (.slice (some ⟨g, 0, none⟩) n cap) rat ((rkey + r.g) % 4294967296) r.c r.m rok pos) 41 (0, 0)) ∧ w.grownBy wx (some C))
  case first =>
    go_region_with (go_at_call 19; refine HU.out.mono ?_; rintro e w' ⟨rfl, rfl⟩)
    all_goals (go_wp2_with fail; go_meet; exact ⟨(alloc_block (set_block hC2)).trans (by rw [wrap_small o3]; rfl), gb_trans HG2.out (gb_drew (gb_drew (gb_alloc _ (gb_set 11 _ (gb_refl _ _)))))⟩)
  case rest =>
  obtain ⟨hC3, hG3⟩ := hcut
  clear HU k11 f11 hC2 HG2 hg2 hCs2
  have HG3 := hid hG3
  clear hG3
  obtain ⟨k0, k1, k2, k3, k4, k5, k6, k7, k8, k9, k10, k11, k12, k13, k14, k15⟩ := cur_cells hC3
  have f8 := frozen_block (i := 8) hC3
  have f12 := frozen_block (i := 12) hC3
  clear k0 k1 k2 k3 k4 k5 k6 k13 k14 k15 k7 k9 k10 k11
  go_wp2
  go_end0
  exact ⟨rfl, (set_block (set_block hC3)).trans (by rfl), gb_trans HG3.out (gb_set 12 _ (gb_set 8 _ (gb_refl _ _)))⟩

end Go.Proofs.YbulkbgkkDoor
