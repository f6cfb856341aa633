/-
  (littleEndian).Uint32 (19); the empty case of the encoder.
-/
import Derived.Test.YbulkbgkkDoorEnc
import Derived.BigRegion
namespace Go.Proofs.YbulkbgkkDoor
open Go.RowKit
set_option linter.unusedSimpArgs false
set_option linter.unusedVariables false

theorem le4_sum (v : Nat) (hv : v < 4294967296) : ((v : Int) % 256) + ((v : Int) / 256 % 256) * 256 + ((v : Int) / 65536 % 256) * 65536 + ((v : Int) / 16777216) * 16777216 = v := by omega

theorem ret_int {k : IntKind} {a b : Int} (h : a = b) : Ending.returned (.int k a) = .returned (.int k b) := by rw [h]

theorem or_le4 (v : Nat) (hv : v < 4294967296) : bits .or .u32 (bits .or .u32 (bits .or .u32 ((v : Int) % 256) ((v : Int) / 256 % 256 * 256)) ((v : Int) / 65536 % 256 * 65536)) ((v : Int) / 16777216 * 16777216) = v := by
  have e0 : (v : Int) % 256 = ((v % 256 : Nat) : Int) := by omega
  have e1 : (v : Int) / 256 % 256 * 256 = ((v / 256 % 256 * 256 : Nat) : Int) := by omega
  have e2 : (v : Int) / 65536 % 256 * 65536 = ((v / 65536 % 256 * 65536 : Nat) : Int) := by omega
  have e3 : (v : Int) / 16777216 * 16777216 = ((v / 16777216 * 16777216 : Nat) : Int) := by omega
  rw [e0, e1, e2, e3, u32_or_nat _ _ (by omega) (by omega), Nat.or_comm, nat_join 8 _ _ (by omega) (by omega), u32_or_nat _ _ (by omega) (by omega), Nat.or_comm, nat_join 16 _ _ (by omega) (by omega), u32_or_nat _ _ (by omega) (by omega), Nat.or_comm, nat_join 24 _ _ (by omega) (by omega)]
  omega

set_option maxHeartbeats 400000 in
set_option maxRecDepth 100000 in
theorem enc_zero (a : Option Addr) (cap : Nat) (w : World) :
    Calls Ybad.prog 5 #[.slice a 0 cap] w fun e w' => ∃ g cp, e = .returned (.slice (some ⟨g, 0, none⟩) 0 cp) ∧ w'.ownsRow w.heap.size 5 1 (.slice (some ⟨g, 0, none⟩) 0 cp) 0 [] ∧ Below w.heap.size w w' := by
  obtain ⟨i0, hi, hz0, hz1, hz2⟩ := info_parts Ybad.info5
  go_enter Ybad.func5, Ybad.ntmps5
  go_wp2_with (at_make; refine wpList_make_own _ rfl _ _ 23 rfl w.heap.size 5 i0 (.int .u8 0) 1 Ybad.underlying23 hi hz0 hz1 _ _ _ 0 rfl rfl (by omega) ?b2 ?b3 (Nat.le_refl _) ?_)
  case b2 => rw [hz2]; omega
  case b3 => unfold maxLen; omega
  intro w0 hown0 hgrow0
  go_wp2
  refine wp_loop_rounds 1 ?_
  rw [rounds_succ]
  go_wp2
  go_ret
  exact ⟨_, _, rfl, hown0, (Below.refl _ _).grown hgrow0 (Nat.le_refl _) (fun k h => by cases h)⟩

set_option maxHeartbeats 400000 in
set_option maxRecDepth 100000 in
theorem u32_any (g o n c v : Nat) (hv : v < 4294967296) (w : World) (hn : 4 ≤ n)
    (c0 : w.cell? ⟨g, o, none⟩ = some (.int .u8 ((v : Int) % 256))) (c1 : w.cell? ⟨g, o + 1, none⟩ = some (.int .u8 ((v : Int) / 256 % 256))) (c2 : w.cell? ⟨g, o + 2, none⟩ = some (.int .u8 ((v : Int) / 65536 % 256))) (c3 : w.cell? ⟨g, o + 3, none⟩ = some (.int .u8 ((v : Int) / 16777216))) (hg : g < w.heap.size) :
    Calls Ybad.prog 19 #[.agg #[], .slice (some ⟨g, o, none⟩) n c] w fun e w' => e = .returned (.int .u32 v) ∧ w' = (w.alloc (.cells #[] 69)).drew := by
  have n0 : 0 < n := by omega
  have n1 : (1 : Int) < (n : Int) := by omega
  have n2 : (2 : Int) < (n : Int) := by omega
  have n3 : (3 : Int) < (n : Int) := by omega
  have d0 := (World.cell?_alloc_past (.cells #[] 69) g o hg).trans c0
  have d1 := (World.cell?_alloc_past (.cells #[] 69) g (o + 1) hg).trans c1
  have d2 := (World.cell?_alloc_past (.cells #[] 69) g (o + 2) hg).trans c2
  have d3 := (World.cell?_alloc_past (.cells #[] 69) g (o + 3) hg).trans c3
  have b0 : 0 ≤ (v : Int) / 16777216 ∧ (v : Int) / 16777216 < 256 := by omega
  clear c0 c1 c2 c3
  go_enter Ybad.func19, Ybad.ntmps19
  go_wp2
  go_region
  go_wp2
  go_ret
  exact ⟨ret_int (or_le4 v hv), rfl⟩

end Go.Proofs.YbulkbgkkDoor
