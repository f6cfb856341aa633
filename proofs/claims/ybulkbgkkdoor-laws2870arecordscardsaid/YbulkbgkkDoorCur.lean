/-
  (*cursor).name (11) and (*cursor).next (7) over a cursor that reads records.
-/
import Derived.Test.YbulkbgkkDoorNext
namespace Go.Proofs.YbulkbgkkDoor
open Go.RowKit
set_option linter.unusedSimpArgs false
set_option linter.unusedVariables false

set_option maxHeartbeats 1000000 in
set_option maxRecDepth 100000 in
theorem name_any (C : Nat) (id key cnt mx : Int) (ok : Bool) (bv : Value) (rat rkey rcnt rmx : Int) (rok : Bool) (pos : Int) (w : World)
    (hC : w.heap[C]? = some (.cells (curA id key cnt mx ok bv rat rkey rcnt rmx rok pos) 41 (0, 0))) :
    Calls Ybad.prog 11 #[.pointer (some ⟨C, 0, none⟩)] w fun e w' => e = .returned (.tuple #[]) ∧
      w'.heap[C]? = some (.cells (curA key key cnt mx ok bv rat rkey rcnt rmx rok pos) 41 (0, 0)) ∧ w.grownBy w' (some C) := by
  obtain ⟨k0, k1, k2, k3, k4, k5, k6, k7, k8, k9, k10, k11, k12, k13, k14, k15⟩ := cur_cells hC
  clear k2 k3 k4 k5 k7 k8 k9 k10 k11 k12 k13 k14 k15
  have f0 := frozen_block (i := 0) hC
  have hCs := (Array.getElem?_eq_some_iff.1 hC).1
  go_enter Ybad.func11, Ybad.ntmps11
  go_wp2
  go_end0
  exact ⟨rfl, (set_block hC).trans (by rfl), gb_set 0 _ (gb_refl _ _)⟩

set_option maxHeartbeats 1000000 in
set_option maxRecDepth 100000 in
theorem cur_some (C : Nat) (id key cnt mx : Int) (ok : Bool) (bv : Value) (rat rkey rcnt rmx : Int) (rok : Bool) (pos : Nat) (hpos : pos ≤ 1024) (rat' rkey' rcnt' rmx' : Int) (w : World)
    (hC : w.heap[C]? = some (.cells (curA id key cnt mx ok bv rat rkey rcnt rmx rok pos) 41 (0, 0)))
    (HR : Hid (Calls Ybad.prog 10 #[.pointer (some ⟨C, 7, none⟩)] w fun e w' => e = .returned (.tuple #[]) ∧
      w'.heap[C]? = some (.cells (curA id key cnt mx ok bv rat' rkey' rcnt' rmx' true pos) 41 (0, 0)) ∧ w.grownBy w' (some C))) :
    Calls Ybad.prog 7 #[.pointer (some ⟨C, 0, none⟩)] w fun e w' => e = .returned (.tuple #[]) ∧
      w'.heap[C]? = some (.cells (curA rkey' rkey' rcnt' rmx' true bv rat' rkey' rcnt' rmx' true (pos + 1)) 41 (0, 0)) ∧ w.grownBy w' (some C) := by
  obtain ⟨k0, k1, k2, k3, k4, k5, k6, k7, k8, k9, k10, k11, k12, k13, k14, k15⟩ := cur_cells hC
  clear k0 k1 k2 k3 k4 k5 k6 k7 k8 k9 k10 k11 k12 k13 k14
  go_enter Ybad.func7, Ybad.ntmps7
  go_wp2_with fail
  refine HR.out.mono ?_
  rintro e w1 ⟨rfl, hC1, hG1⟩
  have HG1 := hid hG1
  clear hG1 k15 hC HR
  obtain ⟨k0, k1, k2, k3, k4, k5, k6, k7, k8, k9, k10, k11, k12, k13, k14, k15⟩ := cur_cells hC1
  have f1 := frozen_block (i := 1) hC1
  have f2 := frozen_block (i := 2) hC1
  have f3 := frozen_block (i := 3) hC1
  have f5 := frozen_block (i := 5) hC1
  have hCs := (Array.getElem?_eq_some_iff.1 hC1).1
  clear k0 k4 k6 k7 k8 k13 k14 k15
  go_wp2
  go_region
  go_wp2_with fail
  refine (name_any C id rkey' rcnt' rmx' true bv rat' rkey' rcnt' rmx' true pos _ (by exact (set_block (set_block (set_block (set_block hC1)))).trans (by rfl))).mono ?_
  rintro e w2 ⟨rfl, hC2, hG2⟩
  have HG2 := hid (gb_trans (gb_drew (gb_set 3 (.int .i64 rmx') (gb_set 2 (.int .i64 rcnt') (gb_set 1 (.int .u32 rkey') (gb_set 5 (.bool true) HG1.out))))) hG2)
  clear hG2 HG1 hC1 k1 k2 k3 k5 k9 k10 k11 k12 f1 f2 f3 f5 hCs
  obtain ⟨k0, k1, k2, k3, k4, k5, k6, k7, k8, k9, k10, k11, k12, k13, k14, k15⟩ := cur_cells hC2
  have f14 := frozen_block (i := 14) hC2
  clear k0 k1 k2 k3 k4 k5 k6 k7 k8 k9 k10 k11 k12 k13 k15
  go_wp2
  go_end0
  exact ⟨rfl, (set_block hC2).trans (by rfl), gb_set 14 _ HG2.out⟩

set_option maxHeartbeats 1000000 in
set_option maxRecDepth 100000 in
theorem cur_none (C : Nat) (id key cnt mx : Int) (ok : Bool) (bv : Value) (rat rkey rcnt rmx : Int) (rok : Bool) (pos : Int) (w : World)
    (hC : w.heap[C]? = some (.cells (curA id key cnt mx ok bv rat rkey rcnt rmx rok pos) 41 (0, 0)))
    (HR : Hid (Calls Ybad.prog 10 #[.pointer (some ⟨C, 7, none⟩)] w fun e w' => e = .returned (.tuple #[]) ∧
      w'.heap[C]? = some (.cells (curA id key cnt mx ok bv rat rkey rcnt rmx false pos) 41 (0, 0)) ∧ w.grownBy w' (some C))) :
    Calls Ybad.prog 7 #[.pointer (some ⟨C, 0, none⟩)] w fun e w' => e = .returned (.tuple #[]) ∧
      w'.heap[C]? = some (.cells (curA id key cnt mx false bv rat rkey rcnt rmx false pos) 41 (0, 0)) ∧ w.grownBy w' (some C) := by
  obtain ⟨k0, k1, k2, k3, k4, k5, k6, k7, k8, k9, k10, k11, k12, k13, k14, k15⟩ := cur_cells hC
  clear k0 k1 k2 k3 k4 k5 k6 k7 k8 k9 k10 k11 k12 k13 k14
  go_enter Ybad.func7, Ybad.ntmps7
  go_wp2_with fail
  refine HR.out.mono ?_
  rintro e w1 ⟨rfl, hC1, hG1⟩
  have HG1 := hid hG1
  clear hG1 k15 hC HR
  obtain ⟨k0, k1, k2, k3, k4, k5, k6, k7, k8, k9, k10, k11, k12, k13, k14, k15⟩ := cur_cells hC1
  have f5 := frozen_block (i := 5) hC1
  clear k0 k1 k2 k3 k4 k6 k7 k8 k9 k10 k11 k13 k14 k15
  go_wp2
  refine bodyPost_ret (results_none rfl _ _ _) rfl ?_
  exact ⟨rfl, (set_block hC1).trans (by rfl), gb_set 5 _ HG1.out⟩

end Go.Proofs.YbulkbgkkDoor
