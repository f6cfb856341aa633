/-
  LawS2870AHistory (4): the walk.
-/
import Derived.Test.YbulkbgkkDoorRecsAny
import Derived.LaidEqlPtr
namespace Go.Proofs.YbulkbgkkDoor
open Go.RowKit
set_option linter.unusedSimpArgs false
set_option linter.unusedVariables false

/-- The cells of a cursor over a history. -/
def curH (key cnt : Int) (ok : Bool) (bv : Value) (pos : Int) (H L : Nat) (off : Int) : Array Value :=
  #[.int .u32 0, .int .u32 key, .int .i64 cnt, .int .i64 0, .pointer none, .bool ok, .pointer none, bv, .int .i64 0, .int .u32 0, .int .i64 0, .int .i64 0, .bool false, .slice none 0 0, .int .i64 pos,
    .pointer (some ⟨H, 0, none⟩), .pointer (some ⟨L, 0, none⟩), .int .u64 0, .int .i64 off, .int .i64 0, .slice none 0 0, .int .i64 0, .int .u64 0]

theorem curH_cells {w : World} {C : Nat} {key cnt : Int} {ok : Bool} {bv : Value} {pos : Int} {H L : Nat} {off : Int} (h : w.heap[C]? = some (.cells (curH key cnt ok bv pos H L off) 41 (0, 0))) :
    w.cell? ⟨C, 1, none⟩ = some (.int .u32 key) ∧ w.cell? ⟨C, 2, none⟩ = some (.int .i64 cnt) ∧ w.cell? ⟨C, 5, none⟩ = some (.bool ok) ∧ w.cell? ⟨C, 8, none⟩ = some (.int .i64 0) ∧ w.cell? ⟨C, 12, none⟩ = some (.bool false) ∧
    w.cell? ⟨C, 14, none⟩ = some (.int .i64 pos) ∧ w.cell? ⟨C, 15, none⟩ = some (.pointer (some ⟨H, 0, none⟩)) ∧ w.cell? ⟨C, 16, none⟩ = some (.pointer (some ⟨L, 0, none⟩)) ∧ w.cell? ⟨C, 18, none⟩ = some (.int .i64 off) ∧ w.cell? ⟨C, 19, none⟩ = some (.int .i64 0) :=
  ⟨cell_block h rfl, cell_block h rfl, cell_block h rfl, cell_block h rfl, cell_block h rfl, cell_block h rfl, cell_block h rfl, cell_block h rfl, cell_block h rfl, cell_block h rfl⟩

set_option maxHeartbeats 1000000 in
set_option maxRecDepth 100000 in
theorem nextRead_none (C H L D : Nat) (key cnt : Int) (ok : Bool) (bv : Value) (pos off : Int) (w : World)
    (hC : w.heap[C]? = some (.cells (curH key cnt ok bv pos H L off) 41 (0, 0))) (hH : w.cell? ⟨H, 0, none⟩ = some (.pointer (some ⟨D, 0, none⟩))) (hL : w.cell? ⟨L, 0, none⟩ = some (.slice none 0 0)) (hD : w.cell? ⟨D, 4, none⟩ = some (.slice none 0 0)) :
    Calls Ybad.prog 9 #[.pointer (some ⟨C, 0, none⟩)] w fun e w' => e = .returned (.tuple #[]) ∧
      w'.heap[C]? = some (.cells (curH key cnt false bv pos H L off) 41 (0, 0)) ∧ w.grownBy w' (some C) := by
  obtain ⟨k1, k2, k5, k8, k12, k14, k15, k16, k18, k19⟩ := curH_cells hC
  have f5 := frozen_block (i := 5) hC
  have f18 := frozen_block (i := 18) hC
  have f19 := frozen_block (i := 19) hC
  go_enter Ybad.func9, Ybad.ntmps9
  go_wp2
  go_region
  go_wp2
  refine wp_loop_rounds 1 ?_
  rw [rounds_succ]
  go_wp2
  go_end0
  exact ⟨rfl, (set_block (set_block (set_block hC))).trans (by rfl), gb_drew (gb_set 5 _ (gb_set 18 _ (gb_set 19 _ (gb_refl _ _))))⟩

set_option maxHeartbeats 1000000 in
set_option maxRecDepth 100000 in
theorem nextH_none (C H L D : Nat) (key cnt : Int) (ok : Bool) (bv : Value) (pos off : Int) (w : World)
    (hC : w.heap[C]? = some (.cells (curH key cnt ok bv pos H L off) 41 (0, 0))) (hH : w.cell? ⟨H, 0, none⟩ = some (.pointer (some ⟨D, 0, none⟩))) (hL : w.cell? ⟨L, 0, none⟩ = some (.slice none 0 0)) (hD : w.cell? ⟨D, 4, none⟩ = some (.slice none 0 0)) :
    Calls Ybad.prog 7 #[.pointer (some ⟨C, 0, none⟩)] w fun e w' => e = .returned (.tuple #[]) ∧
      w'.heap[C]? = some (.cells (curH key cnt false bv pos H L off) 41 (0, 0)) ∧ w.grownBy w' (some C) := by
  have HR := hid (nextRead_none C H L D key cnt ok bv pos off w hC hH hL hD)
  obtain ⟨k1, k2, k5, k8, k12, k14, k15, k16, k18, k19⟩ := curH_cells hC
  clear k1 k2 k5 k8 k12 k14 k16 k18 k19 hH hL hD hC
  go_enter Ybad.func7, Ybad.ntmps7
  go_wp2_with fail
  refine HR.out.mono ?_
  rintro e w1 ⟨rfl, hC1, hG1⟩
  have HC := hid hC1
  have HG := hid hG1
  clear hC1 hG1 HR
  go_wp2
  refine bodyPost_ret (results_none rfl _ _ _) rfl ?_
  exact ⟨rfl, HC.out, HG.out⟩

section
variable (w : World) (o1 o2 o3 o4 : Obj)
theorem four_last : ((((w.alloc o1).alloc o2).alloc o3).alloc o4).heap[w.heap.size + 1 + 1 + 1]? = some o4 := by
  have := heap_alloc_last (((w.alloc o1).alloc o2).alloc o3) o4
  simpa using this
theorem four_1 (C : Array Value) (t : Nat) {i : Nat} {v : Value} (h : C[i]? = some v) : ((((w.alloc (.cells C t)).alloc o2).alloc o3).alloc o4).cell? ⟨w.heap.size, i, none⟩ = some v := by
  refine cell_block (C := C) (t := t) (fr := (0, 0)) ?_ h
  rw [Below.heap_alloc _ _ _ (by simp; omega), Below.heap_alloc _ _ _ (by simp; omega), Below.heap_alloc _ _ _ (by simp)]
  exact heap_alloc_last _ _
end

theorem four_2 (w : World) (o1 o3 o4 : Obj) (C : Array Value) (t : Nat) {i : Nat} {v : Value} (h : C[i]? = some v) : ((((w.alloc o1).alloc (.cells C t)).alloc o3).alloc o4).cell? ⟨w.heap.size + 1, i, none⟩ = some v := by
  refine cell_block (C := C) (t := t) (fr := (0, 0)) ?_ h
  rw [Below.heap_alloc _ _ _ (by simp), Below.heap_alloc _ _ _ (by simp)]
  have := heap_alloc_last (w.alloc o1) (.cells C t)
  simpa using this

theorem four_3 (w : World) (o1 o2 o4 : Obj) (C : Array Value) (t : Nat) {i : Nat} {v : Value} (h : C[i]? = some v) : ((((w.alloc o1).alloc o2).alloc (.cells C t)).alloc o4).cell? ⟨w.heap.size + 1 + 1, i, none⟩ = some v := by
  refine cell_block (C := C) (t := t) (fr := (0, 0)) ?_ h
  rw [Below.heap_alloc _ _ _ (by simp)]
  have := heap_alloc_last ((w.alloc o1).alloc o2) (.cells C t)
  simpa using this

theorem Ybad.has64 : (Ybad.prog.info? 64).isSome = true := by kernel_rfl

theorem history_big (a : Option Addr) (len cap : Nat) (key cnt off pos : Int) (w : World) (h : 1024 < len) :
    Calls Ybad.prog 4 #[.slice a len cap, .int .u32 key, .int .i64 cnt, .int .i64 off, .int .i64 pos] w fun e w' => e = .returned (.bool true) ∧ Below w.heap.size w w' := by
  have hd : (1024 : Int) < (len : Int) := by omega
  go_enter Ybad.func4, Ybad.ntmps4
  go_wp2
  go_ret
  exact ⟨rfl, Below.refl _ _⟩

set_option maxHeartbeats 4000000 in
set_option maxRecDepth 100000 in
theorem history_small (a : Option Addr) (len cap : Nat) (rs : List Rec) (key cnt off pos : Int) (w : World) (hr : IsRecs w a len rs) (h : len ≤ 1024) :
    Calls Ybad.prog 4 #[.slice a len cap, .int .u32 key, .int .i64 cnt, .int .i64 off, .int .i64 pos] w fun e w' => e = .returned (.bool true) ∧ Below w.heap.size w w' := by
  have hd : decide ((1024 : Int) < (len : Int)) = false := by simp; omega
  have HE := hid (enc_any a len cap rs w hr h)
  obtain ⟨j64, hj64⟩ : ∃ j, Ybad.prog.info? 64 = some j := Option.isSome_iff_exists.1 Ybad.has64
  go_enter Ybad.func4, Ybad.ntmps4
  go_wp2_with fail
  refine HE.out.mono ?_
  rintro e w1 ⟨bv, rfl, ⟨g, n, cp, hbv⟩, hb1⟩
  subst hbv
  have HN := hid hb1
  have hB1 := hb1.size
  clear hb1 HE
  have q1 : (curH 0 0 true (.slice (some ⟨g, 0, none⟩) n cp) pos (w1.heap.size + 1) (w1.heap.size + 1 + 1) off)[1]? = some (.int .u32 0) := rfl
  have q2 : (curH 0 0 true (.slice (some ⟨g, 0, none⟩) n cp) pos (w1.heap.size + 1) (w1.heap.size + 1 + 1) off).setIfInBounds 1 (.int .u32 key) = (curH key 0 true (.slice (some ⟨g, 0, none⟩) n cp) pos (w1.heap.size + 1) (w1.heap.size + 1 + 1) off) := rfl
  have q3 : (curH key 0 true (.slice (some ⟨g, 0, none⟩) n cp) pos (w1.heap.size + 1) (w1.heap.size + 1 + 1) off)[2]? = some (.int .i64 0) := rfl
  have q4 : (curH key 0 true (.slice (some ⟨g, 0, none⟩) n cp) pos (w1.heap.size + 1) (w1.heap.size + 1 + 1) off).setIfInBounds 2 (.int .i64 cnt) = (curH key cnt true (.slice (some ⟨g, 0, none⟩) n cp) pos (w1.heap.size + 1) (w1.heap.size + 1 + 1) off) := rfl
  go_wp2_with (first | (refine wpList_build_is rfl 41 _ rfl (curH 0 0 true (.slice (some ⟨g, 0, none⟩) n cp) pos (w1.heap.size + 1) (w1.heap.size + 1 + 1) off) (by kernel_rfl) ?_) | (refine wpList_store_new_at rfl 41 _ _ rfl 41 _ (curH 0 0 true (.slice (some ⟨g, 0, none⟩) n cp) pos (w1.heap.size + 1) (w1.heap.size + 1 + 1) off) _ rfl rfl (by simp) (by kernel_rfl) (by kernel_rfl) (by kernel_rfl) ?_))
  have HX := hid (nextH_none (w1.heap.size + 1 + 1 + 1) (w1.heap.size + 1) (w1.heap.size + 1 + 1) w1.heap.size key cnt true (.slice (some ⟨g, 0, none⟩) n cp) pos off
    ((((w1.alloc (.cells #[.pointer none, .slice none 0 0, .slice none 0 0, .slice none 0 0, .slice none 0 0, .slice none 0 0, .slice none 0 0, .slice none 0 0, .int .i64 0] 52)).alloc (.cells #[.pointer (some ⟨w1.heap.size, 0, none⟩), .int .u64 0, .pointer none, .pointer none] 64)).alloc (.cells #[.slice none 0 0, .slice none 0 0, .int .u64 0] 66)).alloc (.cells (curH key cnt true (.slice (some ⟨g, 0, none⟩) n cp) pos (w1.heap.size + 1) (w1.heap.size + 1 + 1) off) 41)) (by exact four_last _ _ _ _ _) (four_2 _ _ _ _ _ _ rfl) (four_3 _ _ _ _ _ _ rfl) (four_1 _ _ _ _ _ _ rfl))
  refine HX.out.mono ?_
  rintro e w2 ⟨rfl, hC2, hG2⟩
  have hb2 := hid (((((HN.out.alloc hB1 _).alloc (by simp; omega) _).alloc (by simp; omega) _).alloc (by simp; omega) _).grown hG2 (by simp; omega) (fun j hj => by cases hj; omega))
  clear hG2 HN HX
  obtain ⟨k1, k2, k5, k8, k12, k14, k15, k16, k18, k19⟩ := curH_cells hC2
  have heq := fun (W : World) (x : Addr) => run_eql_ptr_same (P := Ybad.prog) W x Ybad.underlying34 hj64
  go_wp2
  go_ret
  exact ⟨rfl, hb2.out⟩

theorem history_any (a : Option Addr) (len cap : Nat) (rs : List Rec) (key cnt off pos : Int) (w : World) (hr : IsRecs w a len rs) :
    Calls Ybad.prog 4 #[.slice a len cap, .int .u32 key, .int .i64 cnt, .int .i64 off, .int .i64 pos] w fun e w' => e = .returned (.bool true) ∧ Below w.heap.size w w' := by
  by_cases h : len ≤ 1024
  · exact history_small a len cap rs key cnt off pos w hr h
  · exact history_big a len cap key cnt off pos w (by omega)

end Go.Proofs.YbulkbgkkDoor
