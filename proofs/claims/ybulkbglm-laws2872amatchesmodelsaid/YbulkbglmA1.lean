/-
  sortedSet (16): the keys of a set, sorted, in a new slice that is not nil.
-/
import Derived.Test.YbulkbglmIter
import Derived.Test.YbulkbglmC0
namespace Go.Proofs.Ybulkbglm
open Go Go.RowKit Go.Maps Go.Sort Go.Shelf
set_option linter.unusedSimpArgs false
set_option linter.unusedVariables false

theorem Yba.info9' : (Yba.prog.info? 9).map (fun i => (i.zero, i.size, i.bytes)) = some (some (.string ⟨#[]⟩), 1, 16) := by kernel_rfl

/-- append(s, nil...): s. -/
theorem run_app_nil {P : Program} (w : World) (t ty e : TypeId) (i : TypeInfo) (ht : P.underlying t = some (.slice e)) (hi : P.info? e = some i) (a : Addr) (n cap : Nat) (hn : n ≤ cap) :
    (Builtin.append_ #[t, t] ty #[.slice (some a) n cap, .slice none 0 0]).run P w = .ok (.slice (some a) n cap) w := by
  simp [Builtin.append_, run_underlying ht, sizeOf, typeInfo, hi, Builtin.lenOf, hn, Builtin.firstCells, loadCells, loadCellsFrom, storeCells]

def sortB (ss : List (List UInt8)) : List (List UInt8) := ss.mergeSort (fun x y => decide (x ≤ y))

theorem keysCall (mb : Option Nat) (W : World) : Calls Yba.prog 21 #[.map mb] W fun e w' => e = .returned (.func (.func 25) #[] #[.pointer (some ⟨W.heap.size, 0, none⟩)]) ∧ w' = W.alloc (.cells #[.map mb] 86) :=
  callsIn_wide.1 (Yba.maps_Keys_21 mb W)

theorem sortedCall (b nn N : Nat) (D : DataW Unit) (w : World) (hN : w.heap.size = N) (hown : w.ownsMap Yba.prog 9 (plainElem Yba.prog 4) b nn D) (hs : Maps.size D ≤ 100000) :
    Calls Yba.prog 20 #[.func (.func 25) #[] #[.pointer (some ⟨N, 0, none⟩)]] (w.alloc (.cells #[.map (some b)] 86)) fun e w' => ∃ (v : Value) (ss : List (List UInt8)), e = .returned v ∧ ss.Perm (strKeys D) ∧
      w'.ownsRow (N + 1) 9 1 v ss.length ((sortB ss).map encStr) ∧ (v = .slice none 0 0 ↔ ss = []) ∧ Below (N + 1) (w.alloc (.cells #[.map (some b)] 86)) w' := by
  subst hN
  have hsz : (w.alloc (.cells #[.map (some b)] 86)).heap.size = w.heap.size + 1 := by simp
  have h := callsIn_wide.1 (Yba.slices_Sorted_keys_20_21 b nn D _ w hown (by unfold maxLen; omega) (by omega))
  rw [hsz] at h
  exact h

set_option maxHeartbeats 1000000 in
set_option maxRecDepth 100000 in
theorem sortedSet16 (b nn : Nat) (D : DataW Unit) (w : World) (hown : w.ownsMap Yba.prog 9 (plainElem Yba.prog 4) b nn D) (hs : Maps.size D ≤ 100000) :
    Calls Yba.prog 16 #[.map (some b)] w fun e w' => ∃ (g cap : Nat) (ss : List (List UInt8)), e = .returned (.slice (some ⟨g, 0, none⟩) ss.length cap) ∧ ss.Perm (strKeys D) ∧
      w'.ownsRow 0 9 1 (.slice (some ⟨g, 0, none⟩) ss.length cap) ss.length ((sortB ss).map encStr) ∧ w.heap.size ≤ g ∧ Below w.heap.size w w' := by
  obtain ⟨i9, hi9, hz9, hs9, hb9⟩ := info_parts Yba.info9'
  have HK := hid (keysCall (some b) (w.alloc (.cells #[] 9)))
  have HS := hid (sortedCall b nn (w.heap.size + 1) D (w.alloc (.cells #[] 9)) (by simp) (hown.alloc _) hs)
  go_enter Yba.func16, Yba.ntmps16
  go_wp2_with fail
  refine HK.out.mono ?_
  rintro e w' ⟨rfl, rfl⟩
  go_wp2_with fail
  refine HS.out.mono ?_
  rintro e w' ⟨v, ss, rfl, hP, hrow, hnil, hb⟩
  have hE : w'.heap[w.heap.size]? = some (.cells #[] 9 (0, 0)) := by
    rw [hb.block _ (by omega), Below.heap_alloc _ _ _ (by simp)]
    exact Array.getElem?_push_size
  have hbel : Below w.heap.size w w' := (((Below.refl w.heap.size w).alloc (Nat.le_refl _) _).alloc (by simp) _).trans (hb.mono (by omega))
  have hszw : w.heap.size + 2 ≤ w'.heap.size := by have := hb.size; simp at this; omega
  have hl : ss.length ≤ 100000 := by
    have : ss.length = Maps.size D := by
      rw [hP.length_eq]
      cases D <;> simp [strKeys, Maps.size]
    omega
  have hrow1 := row_made w' w.heap.size 9 1 hE
  rcases hrow.2 with ⟨rfl, h0⟩ | ⟨g, cap, cur, rfl, hg, hgb, hle, hm, hcs, htk⟩
  · have hr := run_app_nil (P := Yba.prog) w' 22 22 9 i9 Yba.underlying22 hi9 ⟨w.heap.size, 0, none⟩ 0 0 (Nat.le_refl _)
    have hss : ss = [] := hnil.1 rfl
    subst hss
    go_wp2_with fail
    go_ret
    exact ⟨_, _, [], rfl, hP, by simpa [sortB] using hrow1, Nat.le_refl _, hbel⟩
  · have hpos : 0 < ss.length := by
      rcases Nat.eq_zero_or_pos ss.length with h | h
      · have := hnil.2 (List.length_eq_zero_iff.1 h)
        cases this
      · exact h
    have HI := hid hrow1
    have HW1 : Hid (∀ j u, ((sortB ss).map encStr)[j]? = some u → w'.cell? ((⟨g, 0, none⟩ : Addr).add j) = some u) := fun j u hj => hrow.cells (g := g) rfl j u hj
    have HL : Hid (((sortB ss).map encStr).length = ss.length * 1) := by unfold Hid sortB; simp
    go_wp2_with (at_builtin; refine wpList_app _ rfl (.tmp 3) (.tmp 6) 22 rfl 9 i9 _ 1 16 Yba.underlying22 hi9 hz9 hs9 hb9 rfl (by decide) w.heap.size 0 0 [] rfl HI.out ⟨g, 0, none⟩ ss.length cap _ hpos rfl HL.out HW1.out ?o1 ?o2 ?o3 ?_)
    case o1 =>
      intro u hu
      obtain ⟨x, _, rfl⟩ := List.mem_map.1 hu
      rfl
    case o2 => unfold maxLen; omega
    case o3 => omega
    intro b' cap' w2 hown2 hgrow2 hloc
    go_wp2
    go_ret
    exact ⟨b', cap', ss, rfl, hP, hown2, by omega, hbel.grown hgrow2 (by omega) (fun k hk => by cases hk; exact Nat.le_refl _)⟩

end Go.Proofs.Ybulkbglm
