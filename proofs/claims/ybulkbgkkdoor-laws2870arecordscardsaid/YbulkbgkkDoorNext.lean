/-
  (*records).next (10): a short record, a long record, none left.
-/
import Derived.Test.YbulkbgkkDoorLong
namespace Go.Proofs.YbulkbgkkDoor
open Go.RowKit
set_option linter.unusedSimpArgs false
set_option linter.unusedVariables false

theorem or_three (v : Nat) (hv : v < 16777216) : bits .or .u32 (bits .or .u32 ((v : Int) % 256) ((v : Int) / 256 % 256 * 256)) ((v : Int) / 65536 * 65536) = v := by
  have e0 : (v : Int) % 256 = ((v % 256 : Nat) : Int) := by omega
  have e1 : (v : Int) / 256 % 256 * 256 = ((v / 256 % 256 * 256 : Nat) : Int) := by omega
  have e2 : (v : Int) / 65536 * 65536 = ((v / 65536 * 65536 : Nat) : Int) := by omega
  rw [e0, e1, e2, u32_or_nat _ _ (by omega) (by omega), Nat.or_comm, nat_join 8 _ _ (by omega) (by omega), u32_or_nat _ _ (by omega) (by omega), Nat.or_comm, nat_join 16 _ _ (by omega) (by omega)]
  omega

theorem and_127 (v : Nat) (hv : v < 4294967296) : bits .and .u32 (v : Int) 127 = (v : Int) % 128 := by
  have := u32_and_nat v 127 hv (by omega)
  rw [nat_mask7] at this
  exact this.trans (by omega)

theorem and_127' (v : Nat) (hv : v < 4294967296) : bits .and .u32 ((v : Int) / 128) 127 = (v : Int) / 128 % 128 := by
  have h := and_127 (v / 128) (by omega)
  have e : ((v / 128 : Nat) : Int) = (v : Int) / 128 := by omega
  rw [e] at h
  exact h

set_option maxHeartbeats 1000000 in
set_option maxRecDepth 100000 in
theorem nextLong_none (C g n cap : Nat) (id key cnt mx : Int) (ok : Bool) (rkey : Nat) (rcnt rmx : Int) (rok : Bool) (pos : Int) (w : World)
    (hC : w.heap[C]? = some (.cells (curA id key cnt mx ok (.slice (some ⟨g, 0, none⟩) n cap) n rkey rcnt rmx rok pos) 41 (0, 0))) :
    Calls Ybad.prog 15 #[.pointer (some ⟨C, 7, none⟩)] w fun e w' => e = .returned (.tuple #[]) ∧
      w'.heap[C]? = some (.cells (curA id key cnt mx ok (.slice (some ⟨g, 0, none⟩) n cap) n rkey rcnt rmx false pos) 41 (0, 0)) ∧ w.grownBy w' (some C) := by
  obtain ⟨k0, k1, k2, k3, k4, k5, k6, k7, k8, k9, k10, k11, k12, k13, k14, k15⟩ := cur_cells hC
  clear k0 k1 k2 k3 k4 k5 k6 k13 k14 k15
  have f12 := frozen_block (i := 12) hC
  have hCs := (Array.getElem?_eq_some_iff.1 hC).1
  go_enter Ybad.func15, Ybad.ntmps15
  go_wp2
  go_region
  go_wp2
  refine bodyPost_ret (results_none rfl _ _ _) rfl ?_
  exact ⟨rfl, (set_block hC).trans (by rfl), gb_drew (gb_set 12 _ (gb_refl _ _))⟩

set_option maxHeartbeats 1000000 in
set_option maxRecDepth 100000 in
theorem next_three (C g rat n cap v : Nat) (hv : v < 16777216) (hne : ((v : Int) % 256 != 255) = true) (id key cnt mx : Int) (ok : Bool) (rkey : Nat) (rcnt rmx : Int) (rok : Bool) (pos : Int) (w : World)
    (hk : rkey < 4294967296)
    (hC : w.heap[C]? = some (.cells (curA id key cnt mx ok (.slice (some ⟨g, 0, none⟩) n cap) rat rkey rcnt rmx rok pos) 41 (0, 0))) (hgC : g ≠ C) (hg : g < w.heap.size) (hn : rat + 3 ≤ n) (hcap : n ≤ cap) (hbig : n ≤ 13312)
    (b0 : w.cell? ⟨g, rat, none⟩ = some (.int .u8 ((v : Int) % 256))) (b1 : w.cell? ⟨g, rat + 1, none⟩ = some (.int .u8 ((v : Int) / 256 % 256))) (b2 : w.cell? ⟨g, rat + 2, none⟩ = some (.int .u8 ((v : Int) / 65536))) :
    Calls Ybad.prog 10 #[.pointer (some ⟨C, 7, none⟩)] w fun e w' => e = .returned (.tuple #[]) ∧
      w'.heap[C]? = some (.cells (curA id key cnt mx ok (.slice (some ⟨g, 0, none⟩) n cap) (rat + 3) ((rkey + (v : Int) % 128) % 4294967296) ((v : Int) / 128 % 128) ((v : Int) / 16384) true pos) 41 (0, 0)) ∧ w.grownBy w' (some C) := by
  have hor := or_three v hv
  have ha1 := and_127 v (by omega)
  have ha2 := and_127' v (by omega)
  have hbd : 0 ≤ (v : Int) / 65536 ∧ (v : Int) / 65536 < 256 := by omega
  obtain ⟨k0, k1, k2, k3, k4, k5, k6, k7, k8, k9, k10, k11, k12, k13, k14, k15⟩ := cur_cells hC
  clear k0 k1 k2 k3 k4 k5 k6 k13 k14 k15
  have f8 := frozen_block (i := 8) hC
  have f9 := frozen_block (i := 9) hC
  have f10 := frozen_block (i := 10) hC
  have f11 := frozen_block (i := 11) hC
  have f12 := frozen_block (i := 12) hC
  have hCs := (Array.getElem?_eq_some_iff.1 hC).1
  have m0 : 0 < n - rat := by omega
  have m1 : (1 : Int) < ((n - rat : Nat) : Int) := by omega
  have m2 : (2 : Int) < ((n - rat : Nat) : Int) := by omega
  have m3 : (3 : Int) ≤ ((n - rat : Nat) : Int) := by omega
  go_enter Ybad.func10, Ybad.ntmps10
  go_wp2
  go_region
  go_wp2
  go_region
  go_wp2
  refine bodyPost_ret (results_none rfl _ _ _) rfl ?_
  exact ⟨rfl, (set_block (set_block (set_block (set_block (set_block hC))))).trans (by rfl), gb_drew (gb_drew (gb_set 12 _ (gb_set 8 _ (gb_set 11 _ (gb_set 10 _ (gb_set 9 _ (gb_refl _ _)))))))⟩

theorem next_short (C g rat n cap : Nat) (r : Rec) (hs : isShort r = true) (id key cnt mx : Int) (ok : Bool) (rkey : Nat) (rcnt rmx : Int) (rok : Bool) (pos : Int) (w : World)
    (hk : rkey < 4294967296)
    (hC : w.heap[C]? = some (.cells (curA id key cnt mx ok (.slice (some ⟨g, 0, none⟩) n cap) rat rkey rcnt rmx rok pos) 41 (0, 0))) (hgC : g ≠ C) (hg : g < w.heap.size) (hn : rat + 3 ≤ n) (hcap : n ≤ cap) (hbig : n ≤ 13312)
    (hb : ∀ j v, (shortBytes r)[j]? = some v → w.cell? ⟨g, rat + j, none⟩ = some (.int .u8 v)) :
    Calls Ybad.prog 10 #[.pointer (some ⟨C, 7, none⟩)] w fun e w' => e = .returned (.tuple #[]) ∧
      w'.heap[C]? = some (.cells (curA id key cnt mx ok (.slice (some ⟨g, 0, none⟩) n cap) (rat + 3) ((rkey + r.g) % 4294967296) r.c r.m true pos) 41 (0, 0)) ∧ w.grownBy w' (some C) := by
  obtain ⟨hl, h1, h2, h3⟩ := (isShort_iff _).1 hs
  have hv := vOf_lt r h1 h2 h3
  have hne : ((vOf r : Int) % 256 != 255) = true := by
    have : (vOf r : Int) % 256 ≠ 255 := by unfold vOf; omega
    simp [this]
  have e1 : (vOf r : Int) % 128 = r.g := by unfold vOf; omega
  have e2 : (vOf r : Int) / 128 % 128 = r.c := by unfold vOf; omega
  have e3 : (vOf r : Int) / 16384 = r.m := by unfold vOf; omega
  refine (next_three C g rat n cap (vOf r) hv hne id key cnt mx ok rkey rcnt rmx rok pos w hk hC hgC hg hn hcap hbig (hb 0 _ rfl) (hb 1 _ rfl) (hb 2 _ rfl)).mono ?_
  rintro e w' ⟨h1, h2, h3⟩
  rw [e1, e2, e3] at h2
  exact ⟨h1, h2, h3⟩

set_option maxHeartbeats 1000000 in
set_option maxRecDepth 100000 in
theorem next_long (C g rat n cap : Nat) (r : Rec) (hr : r.ok) (id key cnt mx : Int) (ok : Bool) (rkey : Nat) (rcnt rmx : Int) (rok : Bool) (pos : Int) (w : World)
    (hk : rkey < 4294967296)
    (hC : w.heap[C]? = some (.cells (curA id key cnt mx ok (.slice (some ⟨g, 0, none⟩) n cap) rat rkey rcnt rmx rok pos) 41 (0, 0))) (hgC : g ≠ C) (hg : g < w.heap.size) (hn : rat + 13 ≤ n) (hcap : n ≤ cap) (hbig : n ≤ 13312)
    (hb : ∀ j v, (longBytes r)[j]? = some v → w.cell? ⟨g, rat + j, none⟩ = some (.int .u8 v)) :
    Calls Ybad.prog 10 #[.pointer (some ⟨C, 7, none⟩)] w fun e w' => e = .returned (.tuple #[]) ∧
      w'.heap[C]? = some (.cells (curA id key cnt mx ok (.slice (some ⟨g, 0, none⟩) n cap) (rat + 13) ((rkey + r.g) % 4294967296) r.c r.m true pos) 41 (0, 0)) ∧ w.grownBy w' (some C) := by
  have HL := hid (nextLong_rec C g rat n cap r hr id key cnt mx ok rkey rcnt rmx rok pos w.drew hk hC hgC hg hn hcap hbig hb)
  have b0 : w.cell? ⟨g, rat, none⟩ = some (.int .u8 255) := hb 0 _ rfl
  clear hb
  obtain ⟨k0, k1, k2, k3, k4, k5, k6, k7, k8, k9, k10, k11, k12, k13, k14, k15⟩ := cur_cells hC
  clear k0 k1 k2 k3 k4 k5 k6 k13 k14 k15 k9 k10 k11 k12
  have hCs := (Array.getElem?_eq_some_iff.1 hC).1
  have m0 : 0 < n - rat := by omega
  have m3 : (3 : Int) ≤ ((n - rat : Nat) : Int) := by omega
  go_enter Ybad.func10, Ybad.ntmps10
  go_wp2
  go_region
  go_wp2_with fail
  refine HL.out.mono ?_
  rintro e w' ⟨rfl, hC', hG'⟩
  have HC := hid hC'
  have HG := hid hG'
  clear hC' hG'
  go_wp2
  go_end0
  exact ⟨rfl, HC.out, gb_undrew HG.out⟩

set_option maxHeartbeats 1000000 in
set_option maxRecDepth 100000 in
theorem next_none (C g n cap : Nat) (id key cnt mx : Int) (ok : Bool) (rkey : Nat) (rcnt rmx : Int) (rok : Bool) (pos : Int) (w : World)
    (hC : w.heap[C]? = some (.cells (curA id key cnt mx ok (.slice (some ⟨g, 0, none⟩) n cap) n rkey rcnt rmx rok pos) 41 (0, 0))) (hcap : n ≤ cap) (hbig : n ≤ 13312) :
    Calls Ybad.prog 10 #[.pointer (some ⟨C, 7, none⟩)] w fun e w' => e = .returned (.tuple #[]) ∧
      w'.heap[C]? = some (.cells (curA id key cnt mx ok (.slice (some ⟨g, 0, none⟩) n cap) n rkey rcnt rmx false pos) 41 (0, 0)) ∧ w.grownBy w' (some C) := by
  have HL := hid (nextLong_none C g n cap id key cnt mx ok rkey rcnt rmx rok pos w.drew hC)
  obtain ⟨k0, k1, k2, k3, k4, k5, k6, k7, k8, k9, k10, k11, k12, k13, k14, k15⟩ := cur_cells hC
  clear k0 k1 k2 k3 k4 k5 k6 k13 k14 k15 k9 k10 k11 k12
  have hCs := (Array.getElem?_eq_some_iff.1 hC).1
  go_enter Ybad.func10, Ybad.ntmps10
  go_wp2
  go_region
  all_goals go_wp2_with fail
  all_goals
    refine HL.out.mono ?_
    rintro e w' ⟨rfl, hC', hG'⟩
    have HC := hid hC'
    have HG := hid hG'
    clear hC' hG'
    go_wp2
    go_end0
    exact ⟨rfl, HC.out, gb_undrew HG.out⟩

end Go.Proofs.YbulkbgkkDoor
