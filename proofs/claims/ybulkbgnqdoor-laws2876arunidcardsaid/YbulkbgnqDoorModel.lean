/-
  the law's own model of Member, and LawS2876AModel.
-/
import Derived.Test.YbulkbgnqDoorMember
namespace Go.Proofs.YbulkbgnqDoor
open Go Go.RowKit Go.Shelf
set_option linter.unusedSimpArgs false
set_option linter.unusedVariables false

theorem ext_toList (s : ByteArray) (a b : Nat) : (s.extract a b).data.toList = (s.data.toList.take b).drop a := by
  simp [ByteArray.data_extract, List.drop_take]

theorem tail16 (s : ByteArray) : (s.extract (s.size - 16) s.size).data.toList = s.data.toList.drop (s.size - 16) := by
  rw [ext_toList, List.take_of_length_le (by rw [← Lib.size_eq]; exact Nat.le_refl _)]

set_option maxHeartbeats 8000000 in
set_option maxRecDepth 100000 in
theorem model6 (s : ByteArray) (hs : s.size ≤ 281474976710656) (w : World) :
    Calls Ybad.prog 6 #[.string s] w fun e w' => e = .returned (.string (memberOf s)) ∧ w' = w := by
  by_cases h17 : s.size < 17
  · have hm := Lib.hid (memberOf_short h17)
    go_enter Ybad.func6, Ybad.ntmps6
    go_wp2
    go_ret
    exact ⟨by rw [hm.out]; rfl, rfl⟩
  · by_cases h35 : (s[s.size - 17]'(by omega)).toNat = 35
    · have hb : (((s[s.size - 17]'(by omega)).toNat : Int) != 35) = false := by rw [h35]; rfl
      have HG := Lib.hid (memberOf_good h17 h35)
      have HB := Lib.hid (@memberOf_bad s)
      rw [tail16] at HG HB
      obtain ⟨bs, hL⟩ : ∃ bs, bs = s.data.toList := ⟨_, rfl⟩
      have hLn : bs.length = s.size := by rw [hL, Lib.size_eq]
      have hat : ∀ (k : Nat) (hk : k < s.size), s[k]'hk = bs[k]'(by omega) := by
        intro k hk; subst hL; rfl
      rw [← hL] at HG HB
      clear hL h35
      have Hat := Lib.hid hat
      clear hat
      go_enter Ybad.func6, Ybad.ntmps6
      go_wp2
      go_loop [5] (fun vi => ∃ p : Nat, vi = .int .i64 (p : Int) ∧ s.size ≤ p + 16 ∧ p ≤ s.size ∧ Hid (allHex ((bs.drop (s.size - 16)).take (p - (s.size - 16))) = true))
        (fun vi => s.size - (intOf vi).toNat)
      case atStart => exact ⟨s.size - 16, by first | rfl | (congr 1; omega), by omega, by omega, by rw [Nat.sub_self]; rfl⟩
      case round =>
        obtain ⟨p, rfl, hp, hk, hh⟩ := hrel
        by_cases hlt : p < s.size
        · have HX : Hid (∀ W, Calls Ybad.prog 8 #[.int .u8 ((s[p]'hlt).toNat : Int)] W fun e w' => e = .returned (.bool (hexB (s[p]'hlt))) ∧ w' = W) := Lib.hid (fun W => hex8 (s[p]'hlt) W)
          have hlen : p - (s.size - 16) < (bs.drop (s.size - 16)).length := by simp; omega
          have hget : (bs.drop (s.size - 16))[p - (s.size - 16)]'hlen = s[p]'hlt := by
            rw [Hat.out p hlt]; simp; congr 1; omega
          cases hx : hexB (s[p]'hlt) with
          | true =>
            rw [hx] at HX
            have HN : Hid (allHex ((bs.drop (s.size - 16)).take (p + 1 - (s.size - 16))) = true) := by
              show List.all _ _ = true
              rw [show p + 1 - (s.size - 16) = p - (s.size - 16) + 1 by omega, List.take_add_one, List.getElem?_eq_getElem hlen, hget, List.all_append]
              have := hh.out
              unfold allHex at this
              rw [this]
              simp [hx]
            clear hget hlen hx hh HB HG
            go_wp2_with (go_at_call 8; refine (HX.out _).mono ?_; rintro e w' ⟨rfl, rfl⟩)
            exact ⟨⟨p + 1, by first | rfl | (congr 1; omega), by omega, by omega, HN⟩, by simp [intOf]; omega⟩
          | false =>
            rw [hx] at HX
            have HN : Hid (memberOf s = s) := by
              refine HB.out ?_
              show List.all _ _ = false
              rw [Bool.eq_false_iff]
              intro hall
              have := List.all_eq_true.1 hall _ (List.getElem_mem hlen)
              rw [hget, hx] at this; cases this
            clear hget hlen hx hh HB HG
            go_wp2_with (go_at_call 8; refine (HX.out _).mono ?_; rintro e w' ⟨rfl, rfl⟩)
            go_ret
            exact ⟨by rw [HN.out]; rfl, rfl⟩
        · obtain rfl : p = s.size := by omega
          have HN : Hid (memberOf s = s.extract 0 (s.size - 17)) := by
            refine HG.out ?_
            have := hh.out
            rw [List.take_of_length_le (by simp; omega)] at this
            exact this
          clear hh HB HG
          go_wp2
          go_ret
          exact ⟨by rw [HN.out]; rfl, rfl⟩
    · have hm := Lib.hid (memberOf_mark h17 h35)
      have hb : (((s[s.size - 17]'(by omega)).toNat : Int) != 35) = true := by simp; omega
      go_enter Ybad.func6, Ybad.ntmps6
      go_wp2
      go_ret
      exact ⟨by rw [hm.out]; rfl, rfl⟩

set_option maxHeartbeats 8000000 in
set_option maxRecDepth 100000 in
theorem law3 (s : ByteArray) (hs : s.size ≤ 281474976710656) (ev : Value) (w : World) (h0 : 0 < w.heap.size) (hv : w.cell? ⟨0, 0, none⟩ = some ev) (hev : ev = .nilIface ∨ ∃ te pe, ev = .iface te pe) :
    Calls Ybad.prog 3 #[.string s] w fun e w' => e = .returned (.bool true) ∧ Below w.heap.size w w' := by
  have HM := Lib.hid (member5 s hs ev w h0 hv hev)
  have HO := Lib.hid (model6 s hs)
  go_enter Ybad.func3, Ybad.ntmps3
  go_wp2_with (first | (go_at_call 5; refine HM.out.mono ?_; rintro e w' ⟨rfl, hbel⟩) | (go_at_call 6; refine (HO.out _).mono ?_; rintro e w'' ⟨rfl, rfl⟩))
  go_ret
  exact ⟨rfl, hbel⟩

end Go.Proofs.YbulkbgnqDoor
