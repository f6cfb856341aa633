/-
  LawS2870ARecords (3): an empty slice, a long slice, any slice.
-/
import Derived.Test.YbulkbgkkDoorRecsWalk
namespace Go.Proofs.YbulkbgkkDoor
open Go.RowKit
set_option linter.unusedSimpArgs false
set_option linter.unusedVariables false

theorem records_big (a : Option Addr) (len cap : Nat) (w : World) (h : 1024 < len) :
    Calls Ybad.prog 3 #[.slice a len cap] w fun e w' => e = .returned (.bool true) ∧ Below w.heap.size w w' := by
  have hd : (1024 : Int) < (len : Int) := by omega
  go_enter Ybad.func3, Ybad.ntmps3
  go_wp2
  go_ret
  exact ⟨rfl, Below.refl _ _⟩

set_option maxHeartbeats 4000000 in
set_option maxRecDepth 100000 in
theorem records_zero (a : Option Addr) (cap : Nat) (w : World) :
    Calls Ybad.prog 3 #[.slice a 0 cap] w fun e w' => e = .returned (.bool true) ∧ Below w.heap.size w w' := by
  have HE := hid (enc_zero a cap w)
  go_enter Ybad.func3, Ybad.ntmps3
  go_wp2_with fail
  refine HE.out.mono ?_
  rintro e w1 ⟨g, cp, rfl, hown1, hb1⟩
  have hB1 := hb1.size
  have hC : (w1.alloc (.cells (curA 0 0 0 0 false (.slice (some ⟨g, 0, none⟩) 0 cp) 0 0 0 0 false 0) 41)).heap[w1.heap.size]? = some (.cells (curA 0 0 0 0 false (.slice (some ⟨g, 0, none⟩) 0 cp) 0 0 0 0 false 0) 41 (0, 0)) := heap_alloc_new _ _
  have HE2 := hid (end_cur w _ g 0 cp w1.heap.size 0 [] (by simp) 0 0 0 0 false 0 0 false 0 hC (hown1.alloc _))
  have HN := hid (hb1.alloc hB1 (.cells (curA 0 0 0 0 false (.slice (some ⟨g, 0, none⟩) 0 cp) 0 0 0 0 false 0) 41))
  obtain ⟨k0, k1, k2, k3, k4, k5, k6, k7, k8, k9, k10, k11, k12, k13, k14, k15⟩ := cur_cells hC
  clear k4 k5 k6 k7 k8 k9 k10 k11 k12 k13 k14 k15 hown1 hb1 HE hC
  go_wp2_with (first | (refine wpList_build_is rfl 27 _ rfl #[.slice (some ⟨g, 0, none⟩) 0 cp, .int .i64 0, .int .u32 0, .int .i64 0, .int .i64 0, .bool false] (by kernel_rfl) ?_) | (refine wpList_build_is rfl 41 _ rfl (curA 0 0 0 0 false (.slice (some ⟨g, 0, none⟩) 0 cp) 0 0 0 0 false 0) (by kernel_rfl) ?_) | (refine wpList_store_new rfl 41 _ _ rfl 41 _ (curA 0 0 0 0 false (.slice (some ⟨g, 0, none⟩) 0 cp) 0 0 0 0 false 0) rfl rfl (by kernel_rfl) (by kernel_rfl) (by kernel_rfl) ?_))
  refine wp_loop_rounds 1 ?_
  rw [rounds_succ]
  go_wp2_with fail
  refine HE2.out.mono ?_
  rintro e w2 ⟨rfl, hC2, hG2⟩
  have hb2 := hid (HN.out.grown hG2 (by simp; omega) (fun j hj => by cases hj; exact hB1))
  clear k0 k1 k2 k3 HE2 hG2 HN
  obtain ⟨k0, k1, k2, k3, k4, k5, k6, k7, k8, k9, k10, k11, k12, k13, k14, k15⟩ := cur_cells hC2
  clear k4 k6 k7 k9 k10 k11 k12 k13 k15 hC2
  go_wp2
  go_ret
  exact ⟨rfl, hb2.out⟩

/-- What the walk is told of a slice of records that came in: it is empty, or it leads to its records. -/
def IsRecs (w : World) (a : Option Addr) (len : Nat) (rs : List Rec) : Prop :=
  len = 0 ∨ ∃ b off, a = some ⟨b, off, none⟩ ∧ rs.length = len ∧ (∀ r ∈ rs, r.ok) ∧ b < w.heap.size ∧ RecsAt w b off rs

theorem records_any (a : Option Addr) (len cap : Nat) (rs : List Rec) (w : World) (h : IsRecs w a len rs) :
    Calls Ybad.prog 3 #[.slice a len cap] w fun e w' => e = .returned (.bool true) ∧ Below w.heap.size w w' := by
  rcases h with rfl | ⟨b, off, rfl, hl, hok, hb, hc⟩
  · exact records_zero a cap w
  · by_cases h : len ≤ 1024
    · exact records_some b off len cap rs w hl h hok hb hc
    · exact records_big _ len cap w (by omega)

theorem enc_any (a : Option Addr) (len cap : Nat) (rs : List Rec) (w : World) (h : IsRecs w a len rs) (h1024 : len ≤ 1024) :
    Calls Ybad.prog 5 #[.slice a len cap] w fun e w' => ∃ bv, e = .returned bv ∧ (∃ g n cp, bv = .slice (some ⟨g, 0, none⟩) n cp) ∧ Below w.heap.size w w' := by
  rcases h with rfl | ⟨b, off, rfl, hl, hok, hb, hc⟩
  · exact (enc_zero a cap w).mono fun e w' ⟨g, cp, h1, _, h3⟩ => ⟨_, h1, ⟨_, _, _, rfl⟩, h3⟩
  · exact (enc_some b off len cap rs w hl h1024 hok hb hc).mono fun e w' ⟨g, cp, h1, _, h3⟩ => ⟨_, h1, ⟨_, _, _, rfl⟩, h3⟩

end Go.Proofs.YbulkbgkkDoor
