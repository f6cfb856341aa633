/-
  DERIVED. MADE BY PROGRAM (lay-iter.mjs) off ybulkbglm.cut.gsa: THE SHELF's CONTRACTS ON 'slices.Sorted(maps.Keys(m))' LAID AT THIS DUMP: 1 map type. NO WALK OF THE LIBRARY's TEXT: each is one application of a contract over any P and ρ (Derived/Shelf/SlIter/, Derived/Shelf/SortM/).
-/
import Derived.Shelf.SlIter.Nil
import Derived.Shelf.SortM.Plain
import Derived.Shelf.SortM.SortNone
import Derived.Ground.GgzProg
import Derived.Ground.SlgmProg
import Derived.Test.YbulkbglmProg
namespace Go.Proofs
open Go.RowKit Go.Maps Go.Sort Go.Shelf

-- maps.Keys[map[string]bool,string,bool] (function 21; its iterator 25) · slices.Sorted[string] (20) · slices.Sort[[]string,string] (24) · the map's type 86, the keys' 9
shelf_lay_g SlLaysZ.n7 Ggz 7 at Yba 21 as Yba.keys21
shelf_lay_g SlLaysZ.n6 Ggz 6 at Yba 20 as Yba.sorted20
shelf_lay_g SlLaysM.n6 Slgm 6 at Yba 24 as Yba.sort24

/-- slices.Sort's two contracts at this dump, at the fence that asks nothing. -/
theorem Yba.sorts20 (m : Nat) : AnyZ.SortsIn Yba.prog Yba.sorted20_ren Fence.wide m :=
  ⟨fun blk off cap ss W hH hblk hsz => callsIn_wide.2 (AnyM.slices_Sort_string Yba.sort24 blk off cap ss W hH hblk hsz),
   fun p cap W => callsIn_wide.2 (AnyM.slices_Sort_string_none Yba.sort24 p cap W)⟩

/-- **maps.Keys[map[string]bool,string,bool], at whatever map, the nil one too:** a function value over ONE NEW BLOCK, which holds the map. -/
theorem Yba.maps_Keys_21 (mb : Option Nat) (W : World) : CallsIn Fence.wide 5 Yba.prog 21 #[.map mb] W fun e w' => e = .returned (.func (.func 25) #[] #[.pointer (some ⟨W.heap.size, 0, none⟩)]) ∧ w' = W.alloc (.cells #[.map mb] 86) :=
  AnyZ.keys_in Yba.keys21 Fence.wide 5 trivial rfl mb W

set_option maxHeartbeats 1000000 in
/-- **slices.Sorted[string] AT WHAT maps.Keys[map[string]bool,string,bool] HANDED BACK FOR A MAP THAT IS NOT nil** ('w': the world AHEAD of maps.Keys' call): A NEW SLICE THAT HOLDS THE MAP's KEYS, SORTED; nil just where it has none; nothing that lay before has turned. -/
theorem Yba.slices_Sorted_keys_20_21 {H : Type} (b nn : Nat) (D0 : DataW H) (R : Value → Option (DataW H × List MemPlace)) (w : World) (hown : w.ownsMap Yba.prog 9 R b nn D0) (hmax : Maps.size D0 ≤ maxLen) (hbytes : Maps.size D0 * 16 ≤ 140737488355328) :
    CallsIn Fence.wide 5 Yba.prog 20 #[.func (.func 25) #[] #[.pointer (some ⟨w.heap.size, 0, none⟩)]] (w.alloc (.cells #[.map (some b)] 86)) fun e w' => ∃ (v : Value) (ss : List (List UInt8)), e = .returned v ∧ ss.Perm (strKeys D0) ∧
      w'.ownsRow (w.alloc (.cells #[.map (some b)] 86)).heap.size 9 1 v ss.length ((ss.mergeSort (fun x y => decide (x ≤ y))).map encStr) ∧ (v = .slice none 0 0 ↔ ss = []) ∧ Below (w.alloc (.cells #[.map (some b)] 86)).heap.size (w.alloc (.cells #[.map (some b)] 86)) w' := by
  have hbl := hown.lt
  have hseq : SeqGives Fence.wide 2 Yba.prog 25 #[.pointer (some ⟨w.heap.size, 0, none⟩)] encStr (fun ss => ss.Perm (strKeys D0)) (Maps.size D0) (w.alloc (.cells #[.map (some b)] 86)) :=
    AnyZ.keys_gives (ρ := Yba.keys21_ren) { Yba.keys21 with } Fence.wide _ trivial rfl (by omega) w.heap.size b nn D0 _ (by simp) (by simp) (by
      obtain ⟨es, clock, hb, Ft, hs, hD⟩ := hown
      exact ⟨es, clock, (Below.heap_alloc _ _ b hbl).trans hb, Ft, hs, hD⟩)
  exact AnyZ.sorted_in Yba.sorted20 Fence.wide 5 trivial trivial trivial trivial rfl (by omega) (Yba.sorts20 _) (enters_of Yba.func24 (by kernel_rfl) rfl) 25 #[.pointer (some ⟨w.heap.size, 0, none⟩)] trivial (enters_of Yba.func25 (by kernel_rfl) rfl) _ _ hmax hbytes _ hseq

set_option maxHeartbeats 1000000 in
/-- **.. AND FOR THE nil MAP: nil.** -/
theorem Yba.slices_Sorted_keys_nil_20_21 (w : World) :
    CallsIn Fence.wide 5 Yba.prog 20 #[.func (.func 25) #[] #[.pointer (some ⟨w.heap.size, 0, none⟩)]] (w.alloc (.cells #[.map none] 86)) fun e w' => ∃ (v : Value) (ss : List (List UInt8)), e = .returned v ∧ ss = [] ∧
      w'.ownsRow (w.alloc (.cells #[.map none] 86)).heap.size 9 1 v ss.length ((ss.mergeSort (fun x y => decide (x ≤ y))).map encStr) ∧ (v = .slice none 0 0 ↔ ss = []) ∧ Below (w.alloc (.cells #[.map none] 86)).heap.size (w.alloc (.cells #[.map none] 86)) w' := by
  have hseq : SeqGives Fence.wide 2 Yba.prog 25 #[.pointer (some ⟨w.heap.size, 0, none⟩)] encStr (fun ss : List (List UInt8) => ss = []) 0 (w.alloc (.cells #[.map none] 86)) :=
    AnyZ.keys_gives_nil (ρ := Yba.keys21_ren) { Yba.keys21 with } Fence.wide _ trivial rfl w.heap.size _ (by simp) (by simp)
  exact AnyZ.sorted_in Yba.sorted20 Fence.wide 5 trivial trivial trivial trivial rfl (by omega) (Yba.sorts20 _) (enters_of Yba.func24 (by kernel_rfl) rfl) 25 #[.pointer (some ⟨w.heap.size, 0, none⟩)] trivial (enters_of Yba.func25 (by kernel_rfl) rfl) _ 0 (Nat.zero_le _) (by omega) _ hseq

-- THE CALLER's WALK over 'slices.Sorted(maps.Keys(m))' (inside '(callsIn_wide (n := 6)).1'; 'have hfK : Fence.wide.fn 21 := trivial', 'have hfS : Fence.wide.fn 20 := trivial' ahead): THE TWO ARMS TO PASTE:
--   gi_wp2_with (first
--     | (gi_at_call 21; refine (Yba.maps_Keys_21 _ _).mono ?_; rintro e w' ⟨rfl, rfl⟩)
--     | (gi_at_call 20; refine (Yba.slices_Sorted_keys_20_21 b nn D0 R w hown hmax hbytes).mono ?_; rintro e w' ⟨v, ss, rfl, hS, hrow, hnil, hb⟩))


end Go.Proofs
