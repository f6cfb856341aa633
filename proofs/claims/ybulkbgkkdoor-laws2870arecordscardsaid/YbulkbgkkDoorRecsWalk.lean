/-
  LawS2870ARecords (3): the walk.
-/
import Derived.Test.YbulkbgkkDoorRecs
import Derived.Test.YbulkbgkkDoorBig
namespace Go.Proofs.YbulkbgkkDoor
open Go.RowKit
set_option linter.unusedSimpArgs false
set_option linter.unusedVariables false

theorem key_cast (a b : Nat) : Value.int .u32 (((a : Int) + b) % 4294967296) = .int .u32 (((a + b) % 4294967296 : Nat) : Int) := by
  have e : (((a + b) % 4294967296 : Nat) : Int) = ((a : Int) + b) % 4294967296 := by omega
  rw [e]

theorem block_old (w : World) (o1 o2 : Obj) : ((w.alloc o1).alloc o2).heap[w.heap.size]? = some o1 := by
  rw [Below.heap_alloc _ _ _ (by simp)]
  exact heap_alloc_last w o1

set_option maxHeartbeats 4000000 in
set_option maxRecDepth 100000 in
theorem records_some (b off len cap : Nat) (rs : List Rec) (w : World) (hlen : rs.length = len) (h1024 : len ≤ 1024) (hok : ∀ r ∈ rs, r.ok) (hb : b < w.heap.size) (hc : RecsAt w b off rs) :
    Calls Ybad.prog 3 #[.slice (some ⟨b, off, none⟩) len cap] w fun e w' => e = .returned (.bool true) ∧ Below w.heap.size w w' := by
  have HE := hid (enc_some b off len cap rs w hlen h1024 hok hb hc)
  have hd : decide ((1024 : Int) < (len : Int)) = false := by simp; omega
  go_enter Ybad.func3, Ybad.ntmps3
  go_wp2_with fail
  refine HE.out.mono ?_
  rintro e w1 ⟨g, cp, rfl, hown1, hb1⟩
  have hB1 := hb1.size
  have hA : AtRound w w1.heap.size (.slice (some ⟨g, 0, none⟩) (enc rs).length cp) rs 0 0 (w1.alloc (.cells (curA 0 0 0 0 false (.slice (some ⟨g, 0, none⟩) (enc rs).length cp) 0 0 0 0 false 0) 41)) :=
    ⟨0, 0, 0, 0, false, 0, 0, false, heap_alloc_new _ _, hown1.alloc _, hb1.alloc hB1 _⟩
  have HA := hid hA
  clear hA hown1 hb1 HE
  go_wp2_with (first | (refine wpList_build_is rfl 27 _ rfl #[.slice (some ⟨g, 0, none⟩) (enc rs).length cp, .int .i64 0, .int .u32 0, .int .i64 0, .int .i64 0, .bool false] (by kernel_rfl) ?_) | (refine wpList_build_is rfl 41 _ rfl (curA 0 0 0 0 false (.slice (some ⟨g, 0, none⟩) (enc rs).length cp) 0 0 0 0 false 0) (by kernel_rfl) ?_) | (refine wpList_store_new rfl 41 _ _ rfl 41 _ (curA 0 0 0 0 false (.slice (some ⟨g, 0, none⟩) (enc rs).length cp) 0 0 0 0 false 0) rfl rfl (by kernel_rfl) (by kernel_rfl) (by kernel_rfl) ?_))
  go_loopw [5, 6, 7] (fun key of i wr => ∃ (k ky : Nat), k ≤ len ∧ ky < 4294967296 ∧ i = .int .i64 k ∧ key = .int .u32 ky ∧ of = .int .i64 ((enc (rs.take k)).length : Nat) ∧ AtRound w w1.heap.size (.slice (some ⟨g, 0, none⟩) (enc rs).length cp) rs k ky wr)
    (fun _ _ i _ => len - (intOf i).toNat)
  case atStart => exact ⟨0, 0, Nat.zero_le _, by omega, rfl, rfl, rfl, HA.out⟩
  case round =>
    obtain ⟨k, ky, hk, hky, rfl, rfl, rfl, hR⟩ := hrel
    obtain ⟨id, key, cnt, mx, ok, rcnt, rmx, rok, hC, hown, hnx⟩ := hR
    clear HA
    have hCs := (Array.getElem?_eq_some_iff.1 hC).1
    have hsz := hnx.size
    have HN := hid hnx
    clear hnx
    by_cases hlt : k < len
    · have hkr : k < rs.length := by omega
      obtain ⟨c0, c1, c2, c3⟩ := hc k hkr
      have d0 := (HN.out.cell (p := ⟨b, off + k * 4, none⟩) hb).trans c0
      have d1 := (HN.out.cell (p := ⟨b, off + k * 4 + 1, none⟩) hb).trans c1
      have d2 := (HN.out.cell (p := ⟨b, off + k * 4 + 2, none⟩) hb).trans c2
      have d3 := (HN.out.cell (p := ⟨b, off + k * 4 + 3, none⟩) hb).trans c3
      have hby := hid (hok rs[k] (List.getElem_mem hkr))
      clear c0 c1 c2 c3
      go_wp2_with fail
      refine (short_any rs[k] _).mono ?_
      rintro e w' ⟨rfl, rfl⟩
      have HS := hid (step_cur w ((wr.alloc (.cells #[.int .u32 rs[k].g, .int .u32 rs[k].c, .int .u32 rs[k].m, .bool rs[k].l] 43)).alloc (.cells #[.int .u32 rs[k].g, .int .u32 rs[k].c, .int .u32 rs[k].m, .bool rs[k].l] 43)) g _ cp w1.heap.size k ky hky rs hkr (by omega) hok id key cnt mx ok rcnt rmx rok (alloc_block (alloc_block hC)) ((hown.alloc _).alloc _))
      have G := block_old wr (.cells #[.int .u32 rs[k].g, .int .u32 rs[k].c, .int .u32 rs[k].m, .bool rs[k].l] 43) (.cells #[.int .u32 rs[k].g, .int .u32 rs[k].c, .int .u32 rs[k].m, .bool rs[k].l] 43)
      have hbd := enc_take_le rs k (by omega)
      have ok2 : rs[k].c < 4294967296 := hby.out.2.1
      have ok3 : rs[k].m < 4294967296 := hby.out.2.2
      by_cases hs : isShort rs[k] = true
      · rw [hs]
        have hlr : recLen rs[k] = 3 := by unfold recLen; rw [if_pos hs]
        rw [hlr] at HS
        go_wp2_with fail
        refine HS.out.mono ?_
        rintro e w2 ⟨rfl, hC2, hG2⟩
        have G2 := (hG2.block wr.heap.size (by simp; omega) (by simp; omega)).trans G
        have hown2 := own_kept ((hown.alloc _).alloc _) (alloc_block (alloc_block hC)) hG2
        have hb2 := ((HN.out.alloc hsz _).alloc (by simp; omega) _).grown hG2 (by simp; omega) (fun j hj => by cases hj; exact hB1)
        have R := hid (at_step hkr (by rw [hlr]; exact hC2) hown2 hb2)
        have e3 : ((3 : Nat) : Int) = 3 := rfl
        rw [e3] at hC2
        obtain ⟨k0, k1, k2, k3, k4, k5, k6, k7, k8, k9, k10, k11, k12, k13, k14, k15⟩ := cur_cells hC2
        have g1 : w2.cell? ⟨wr.heap.size, 1, none⟩ = some (.int .u32 rs[k].c) := cell_block G2 rfl
        have g2 : w2.cell? ⟨wr.heap.size, 2, none⟩ = some (.int .u32 rs[k].m) := cell_block G2 rfl
        clear k6 k7 k9 k10 k11 k12 k13 k15 hC2 hG2 hown2 hb2 G G2 hC hown d0 d1 d2 d3 HN HS e3
        go_wp2
        go_roundw
        case rel => exact ⟨k + 1, (ky + rs[k].g) % 4294967296, by omega, by omega, by go_num, key_cast _ _, by rw [enc_take_len rs k hkr, hlr]; go_num, R.out⟩
        case measure => simp [intOf]; omega
      · have hs' : isShort rs[k] = false := by simpa using hs
        rw [hs']
        have hlr : recLen rs[k] = 13 := by unfold recLen; rw [if_neg hs]
        rw [hlr] at HS
        go_wp2_with fail
        refine HS.out.mono ?_
        rintro e w2 ⟨rfl, hC2, hG2⟩
        have G2 := (hG2.block wr.heap.size (by simp; omega) (by simp; omega)).trans G
        have hown2 := own_kept ((hown.alloc _).alloc _) (alloc_block (alloc_block hC)) hG2
        have hb2 := ((HN.out.alloc hsz _).alloc (by simp; omega) _).grown hG2 (by simp; omega) (fun j hj => by cases hj; exact hB1)
        have R := hid (at_step hkr (by rw [hlr]; exact hC2) hown2 hb2)
        have e3 : ((13 : Nat) : Int) = 13 := rfl
        rw [e3] at hC2
        obtain ⟨k0, k1, k2, k3, k4, k5, k6, k7, k8, k9, k10, k11, k12, k13, k14, k15⟩ := cur_cells hC2
        have g1 : w2.cell? ⟨wr.heap.size, 1, none⟩ = some (.int .u32 rs[k].c) := cell_block G2 rfl
        have g2 : w2.cell? ⟨wr.heap.size, 2, none⟩ = some (.int .u32 rs[k].m) := cell_block G2 rfl
        clear k6 k7 k9 k10 k11 k12 k13 k15 hC2 hG2 hown2 hb2 G G2 hC hown d0 d1 d2 d3 HN HS e3
        go_wp2
        go_roundw
        case rel => exact ⟨k + 1, (ky + rs[k].g) % 4294967296, by omega, by omega, by go_num, key_cast _ _, by rw [enc_take_len rs k hkr, hlr]; go_num, R.out⟩
        case measure => simp [intOf]; omega
    · have hk' : k = len := by omega
      subst hk'
      have et : rs.take k = rs := List.take_of_length_le (by omega)
      rw [et] at hC
      have HE2 := hid (end_cur w wr g _ cp w1.heap.size ky rs (by omega) id key cnt mx ok rcnt rmx rok k hC hown)
      obtain ⟨k0, k1, k2, k3, k4, k5, k6, k7, k8, k9, k10, k11, k12, k13, k14, k15⟩ := cur_cells hC
      clear k4 k5 k6 k7 k8 k9 k10 k11 k12 k13 k14 k15 et
      go_wp2_with fail
      refine HE2.out.mono ?_
      rintro e w2 ⟨rfl, hC2, hG2⟩
      have hb2 := hid (HN.out.grown hG2 hsz (fun j hj => by cases hj; exact hB1))
      clear k0 k1 k2 k3 HE2 hG2 HN hC hown
      obtain ⟨k0, k1, k2, k3, k4, k5, k6, k7, k8, k9, k10, k11, k12, k13, k14, k15⟩ := cur_cells hC2
      clear k4 k6 k7 k9 k10 k11 k12 k13 k15 hC2
      go_wp2
      go_ret
      exact ⟨rfl, hb2.out⟩

end Go.Proofs.YbulkbgkkDoor
