/-
  strconv.ParseUint(s, 16, 64) at sixteen bytes; ReplicaID.Member; the law's own model.
-/
import Derived.Test.YbulkbgnqDoorInner
import Derived.Shelf.Pu.ToError
import Derived.Shelf.Lay
import Derived.Ground.MpProg
namespace Go.Proofs.YbulkbgnqDoor
open Go Go.RowKit Go.Shelf
set_option linter.unusedSimpArgs false
set_option linter.unusedVariables false

shelf_lay LaysPu.n17 Mp 17 at Ybad as Ybad.lays17

theorem toError10 (fn s : ByteArray) (base bits : Int) (ev : Value) (w : World) (hlim : s.size ≤ 281474976710656) (hv : w.cell? ⟨0, 0, none⟩ = some ev) (hev : ev = .nilIface ∨ ∃ te pe, ev = .iface te pe) :
    Calls Ybad.prog 10 #[.string fn, .string s, .int .i64 base, .int .i64 bits, .iface 37 (.int .i64 2)] w fun e w' => ∃ N, e = .returned (.iface 39 (.pointer (some ⟨N, 0, none⟩))) ∧ w.heap.size ≤ N ∧ w'.heap[N]? = some (.cells #[.string fn, .string s, ev] 43 (0, 0)) ∧ Below w.heap.size w w' :=
  AnyPu.strconv_toError_syntax Ybad.lays17 fn s base bits ev w hlim hv hev

/-- how ParseUint ends: the number and no error; or an error that is not nil -/
def ParseEnd (b : Bool) (e : Ending) : Prop :=
  (b = true ∧ ∃ v : Int, e = .returned (.tuple #[.int .u64 v, .nilIface])) ∨ (b = false ∧ ∃ v N, e = .returned (.tuple #[.int .u64 v, .iface 39 (.pointer (some ⟨N, 0, none⟩))]))

set_option maxHeartbeats 8000000 in
set_option maxRecDepth 100000 in
theorem parse7 (t : ByteArray) (ht : t.size = 16) (ev : Value) (w : World) (h0 : 0 < w.heap.size) (hv : w.cell? ⟨0, 0, none⟩ = some ev) (hev : ev = .nilIface ∨ ∃ te pe, ev = .iface te pe) :
    Calls Ybad.prog 7 #[.string t, .int .i64 16, .int .i64 64] w fun e w' =>
      ParseEnd (allHex t.data.toList) e ∧ Below w.heap.size w w' := by
  have hv' : (Lib.bytesWorld w 5 t).cell? ⟨0, 0, none⟩ = some ev := (Lib.bytesWorld_old w 5 t ⟨0, 0, none⟩ h0).trans hv
  have HT := Lib.hid (toError10 ⟨#[80, 97, 114, 115, 101, 85, 105, 110, 116]⟩ t 16 64 ev (Lib.bytesWorld w 5 t) (by omega) hv' hev)
  have hbel := Lib.bytesWorld_below w 5 t
  have HI := Lib.hid (inner9 t ht w)
  obtain ⟨W1, hW1⟩ : ∃ W1, W1 = Lib.bytesWorld w 5 t := ⟨_, rfl⟩
  rw [← hW1] at HT HI hbel
  clear hW1 hv'
  have HB := Lib.hid hbel
  clear hbel
  cases hx : allHex t.data.toList with
  | true =>
    rw [hx] at HI
    go_enter Ybad.func7, Ybad.ntmps7
    go_wp2_with (go_at_call 9; refine HI.out.mono ?_; rintro e w' ⟨⟨h1, h2⟩, rfl⟩; obtain ⟨v, rfl⟩ := h1 rfl; clear h1 h2)
    go_ret2
    exact ⟨.inl ⟨rfl, _, rfl⟩, HB.out⟩
  | false =>
    rw [hx] at HI
    go_enter Ybad.func7, Ybad.ntmps7
    go_wp2_with (first | (go_at_call 9; refine HI.out.mono ?_; rintro e w' ⟨⟨h1, h2⟩, rfl⟩; obtain rfl := h2 rfl; clear h1 h2) | (go_at_call 10; refine HT.out.mono ?_; rintro e w' ⟨N, rfl, h1, h2, h3⟩))
    go_ret2
    refine ⟨.inr ⟨rfl, _, _, rfl⟩, ?_⟩
    exact HB.out.trans (h3.mono HB.out.size)

/-- what Member hands back -/
def memberOf (s : ByteArray) : ByteArray :=
  if h : s.size < 17 then s else if (s[s.size - 16 - 1]'(by omega)).toNat = 35 ∧ allHex (s.extract (s.size - 16) s.size).data.toList = true then s.extract 0 (s.size - 16 - 1) else s

theorem memberOf_short {s : ByteArray} (h : s.size < 17) : memberOf s = s := by unfold memberOf; rw [dif_pos h]
theorem memberOf_mark {s : ByteArray} (h : ¬ s.size < 17) (h1 : ¬ (s[s.size - 16 - 1]'(by omega)).toNat = 35) : memberOf s = s := by unfold memberOf; rw [dif_neg h, if_neg (fun hh => h1 hh.1)]
theorem memberOf_bad {s : ByteArray} (h1 : allHex (s.extract (s.size - 16) s.size).data.toList = false) : memberOf s = s := by
  unfold memberOf
  split
  · rfl
  · rw [if_neg (fun hh => by rw [h1] at hh; cases hh.2)]
theorem memberOf_good {s : ByteArray} (h : ¬ s.size < 17) (h1 : (s[s.size - 16 - 1]'(by omega)).toNat = 35) (h2 : allHex (s.extract (s.size - 16) s.size).data.toList = true) : memberOf s = s.extract 0 (s.size - 16 - 1) := by unfold memberOf; rw [dif_neg h, if_pos ⟨h1, h2⟩]

set_option maxHeartbeats 8000000 in
set_option maxRecDepth 100000 in
theorem member5 (s : ByteArray) (hs : s.size ≤ 281474976710656) (ev : Value) (w : World) (h0 : 0 < w.heap.size) (hv : w.cell? ⟨0, 0, none⟩ = some ev) (hev : ev = .nilIface ∨ ∃ te pe, ev = .iface te pe) :
    Calls Ybad.prog 5 #[.string s] w fun e w' => e = .returned (.string (memberOf s)) ∧ Below w.heap.size w w' := by
  by_cases h17 : s.size < 17
  · have hm := Lib.hid (memberOf_short h17)
    go_enter Ybad.func5, Ybad.ntmps5
    go_wp2
    go_ret
    exact ⟨by rw [hm.out]; rfl, Below.refl _ _⟩
  · by_cases h35 : (s[s.size - 16 - 1]'(by omega)).toNat = 35
    · have hb : (((s[s.size - 16 - 1]'(by omega)).toNat : Int) != 35) = false := by rw [h35]; rfl
      have hsz : (s.extract (s.size - 16) s.size).size = 16 := by simp; omega
      have HP := Lib.hid (parse7 (s.extract (s.size - 16) s.size) hsz ev w h0 hv hev)
      cases hx : allHex (s.extract (s.size - 16) s.size).data.toList with
      | true =>
        have hm := Lib.hid (memberOf_good h17 h35 hx)
        rw [hx] at HP
        clear hsz hx h35
        go_enter Ybad.func5, Ybad.ntmps5
        go_wp2_with (go_at_call 7; refine HP.out.mono ?_; rintro e w' ⟨⟨-, v, rfl⟩ | ⟨hf, -⟩, hbel⟩; rotate_left; cases hf)
        go_ret
        exact ⟨by rw [hm.out]; rfl, hbel⟩
      | false =>
        have hm := Lib.hid (memberOf_bad hx)
        rw [hx] at HP
        clear hsz hx h35
        go_enter Ybad.func5, Ybad.ntmps5
        go_wp2_with (go_at_call 7; refine HP.out.mono ?_; rintro e w' ⟨⟨hf, -⟩ | ⟨-, v, N, rfl⟩, hbel⟩; cases hf)
        go_ret
        exact ⟨by rw [hm.out]; rfl, hbel⟩
    · have hm := Lib.hid (memberOf_mark h17 h35)
      have hb : (((s[s.size - 16 - 1]'(by omega)).toNat : Int) != 35) = true := by simp; omega
      go_enter Ybad.func5, Ybad.ntmps5
      go_wp2
      go_ret
      exact ⟨by rw [hm.out]; rfl, Below.refl _ _⟩

set_option maxHeartbeats 8000000 in
theorem hex8 (c : UInt8) (w : World) : Calls Ybad.prog 8 #[.int .u8 (c.toNat : Int)] w fun e w' => e = .returned (.bool (hexB c)) ∧ w' = w := by
  have hc := c.toNat_lt
  go_enter Ybad.func8, Ybad.ntmps8
  go_wp2
  all_goals go_ret
  all_goals refine ⟨congrArg (fun b => Ending.returned (.bool b)) (?_ : _ = hexB c), rfl⟩
  all_goals (rw [Bool.eq_iff_iff]; simp [hexB]; try omega)

end Go.Proofs.YbulkbgnqDoor
