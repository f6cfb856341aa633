/-
  table.num (13, 17, 22), table.at (15), rolesOn (18), granted (19), allowed (8): they only read.
-/
import Derived.Test.YbulkbglmNew
import Derived.Test.YbulkbglmLaws
import Derived.Test.YbulkbglmGrid
import Derived.Laws.BitsAllLaws
namespace Go.Proofs.Ybulkbglm
open Go Go.RowKit Go.Maps Go.WideMaps
set_option linter.unusedSimpArgs false
set_option linter.unusedVariables false

theorem law9 : Keyed Yba.prog 9 := string_keyed Yba.underlying9
theorem law51 : Keyed Yba.prog 51 := int_keyed Yba.underlying51
theorem law79 : Keyed Yba.prog 79 := int_keyed Yba.underlying79
theorem zero57 (w : World) : (zeroValue 57).run Yba.prog w = .ok (.int .i32 0) w := by kernel_rfl
theorem zero51 (w : World) : (zeroValue 51).run Yba.prog w = .ok (.int .i32 0) w := by kernel_rfl
theorem zero79 (w : World) : (zeroValue 79).run Yba.prog w = .ok (.int .i32 0) w := by kernel_rfl
theorem zero60 (w : World) : (zeroValue 60).run Yba.prog w = .ok (.int .u8 0) w := by kernel_rfl

set_option maxRecDepth 100000 in
theorem num17 (S o m n : Nat) (D : DataW Unit) (s : ByteArray) (w : World) (hs : s.size ≤ maxLen) (hc : w.cell? ⟨S, o, none⟩ = some (.map (some m))) (hown : w.ownsMap Yba.prog 9 (plainElem Yba.prog 57) m n D) :
    Calls Yba.prog 17 #[.pointer (some ⟨S, o, none⟩), .string s] w fun e w' => ∃ c : Int, e = .returned (.tuple #[.int .i32 c, .bool (Maps.has D (.string s.data.toList))]) ∧ D.atKey (.string s.data.toList) (.lit (.int .i32 0)) = .lit (.int .i32 c) ∧ w' = w := by
  go_enter Yba.func17, Yba.ntmps17
  go_wp2_with (at_lookup; refine wpList_lookup_own_ok_int _ rfl _ _ 33 rfl 9 57 .i32 law9 Yba.underlying33 Yba.underlying57 (zero57 _) m n D rfl hown _ _ rfl (keyOf_string_mk Yba.underlying9 hs) ?_; intro c hat hwc)
  go_ret2
  exact ⟨c, rfl, hat, rfl⟩

/-- .. over a table of names. -/
theorem tab17 (S o m n q k : Nat) (ids : Nat → List UInt8) (inj : ∀ i j, i < 4 → j < 4 → ids i = ids j → i = j) (hq : q < 4) (hk : k < 4) (s : ByteArray) (w : World) (hl : s.data.toList = ids q) (hs : s.size ≤ maxLen) (hc : w.cell? ⟨S, o, none⟩ = some (.map (some m)))
    (hown : w.ownsMap Yba.prog 9 (plainElem Yba.prog 57) m n (numD ids k)) :
    Calls Yba.prog 17 #[.pointer (some ⟨S, o, none⟩), .string s] w fun e w' => e = .returned (.tuple #[.int .i32 (if q < k then (q : Int) else 0), .bool (decide (q < k))]) ∧ w' = w := by
  refine (num17 S o m n _ s w hs hc hown).mono ?_
  rintro e w' ⟨c, rfl, hat, rfl⟩
  rw [hl] at hat ⊢
  rw [has_numD ids inj q hq k (by omega)]
  by_cases h : q < k
  · rw [at_numD ids inj q _ k (by omega) h] at hat
    have : c = q := by simpa using hat.symm
    subst this
    rw [if_pos h]
    exact ⟨rfl, rfl⟩
  · rw [at_none (by rw [has_numD ids inj q hq k (by omega)]; simpa using h)] at hat
    have : c = 0 := by simpa using hat.symm
    subst this
    rw [if_neg h]
    exact ⟨rfl, rfl⟩

set_option maxRecDepth 100000 in
theorem num13 (S o m n : Nat) (D : DataW Unit) (s : ByteArray) (w : World) (hs : s.size ≤ maxLen) (hc : w.cell? ⟨S, o, none⟩ = some (.map (some m))) (hown : w.ownsMap Yba.prog 9 (plainElem Yba.prog 51) m n D) :
    Calls Yba.prog 13 #[.pointer (some ⟨S, o, none⟩), .string s] w fun e w' => ∃ c : Int, e = .returned (.tuple #[.int .i32 c, .bool (Maps.has D (.string s.data.toList))]) ∧ D.atKey (.string s.data.toList) (.lit (.int .i32 0)) = .lit (.int .i32 c) ∧ w' = w := by
  go_enter Yba.func13, Yba.ntmps13
  go_wp2_with (at_lookup; refine wpList_lookup_own_ok_int _ rfl _ _ 37 rfl 9 51 .i32 law9 Yba.underlying37 Yba.underlying51 (zero51 _) m n D rfl hown _ _ rfl (keyOf_string_mk Yba.underlying9 hs) ?_; intro c hat hwc)
  go_ret2
  exact ⟨c, rfl, hat, rfl⟩

/-- .. over a table of names. -/
theorem tab13 (S o m n q k : Nat) (ids : Nat → List UInt8) (inj : ∀ i j, i < 4 → j < 4 → ids i = ids j → i = j) (hq : q < 4) (hk : k < 4) (s : ByteArray) (w : World) (hl : s.data.toList = ids q) (hs : s.size ≤ maxLen) (hc : w.cell? ⟨S, o, none⟩ = some (.map (some m)))
    (hown : w.ownsMap Yba.prog 9 (plainElem Yba.prog 51) m n (numD ids k)) :
    Calls Yba.prog 13 #[.pointer (some ⟨S, o, none⟩), .string s] w fun e w' => e = .returned (.tuple #[.int .i32 (if q < k then (q : Int) else 0), .bool (decide (q < k))]) ∧ w' = w := by
  refine (num13 S o m n _ s w hs hc hown).mono ?_
  rintro e w' ⟨c, rfl, hat, rfl⟩
  rw [hl] at hat ⊢
  rw [has_numD ids inj q hq k (by omega)]
  by_cases h : q < k
  · rw [at_numD ids inj q _ k (by omega) h] at hat
    have : c = q := by simpa using hat.symm
    subst this
    rw [if_pos h]
    exact ⟨rfl, rfl⟩
  · rw [at_none (by rw [has_numD ids inj q hq k (by omega)]; simpa using h)] at hat
    have : c = 0 := by simpa using hat.symm
    subst this
    rw [if_neg h]
    exact ⟨rfl, rfl⟩

set_option maxRecDepth 100000 in
theorem num22 (S o m n : Nat) (D : DataW Unit) (s : ByteArray) (w : World) (hs : s.size ≤ maxLen) (hc : w.cell? ⟨S, o, none⟩ = some (.map (some m))) (hown : w.ownsMap Yba.prog 9 (plainElem Yba.prog 79) m n D) :
    Calls Yba.prog 22 #[.pointer (some ⟨S, o, none⟩), .string s] w fun e w' => ∃ c : Int, e = .returned (.tuple #[.int .i32 c, .bool (Maps.has D (.string s.data.toList))]) ∧ D.atKey (.string s.data.toList) (.lit (.int .i32 0)) = .lit (.int .i32 c) ∧ w' = w := by
  go_enter Yba.func22, Yba.ntmps22
  go_wp2_with (at_lookup; refine wpList_lookup_own_ok_int _ rfl _ _ 41 rfl 9 79 .i32 law9 Yba.underlying41 Yba.underlying79 (zero79 _) m n D rfl hown _ _ rfl (keyOf_string_mk Yba.underlying9 hs) ?_; intro c hat hwc)
  go_ret2
  exact ⟨c, rfl, hat, rfl⟩

/-- .. over a table of names. -/
theorem tab22 (S o m n q k : Nat) (ids : Nat → List UInt8) (inj : ∀ i j, i < 4 → j < 4 → ids i = ids j → i = j) (hq : q < 4) (hk : k < 4) (s : ByteArray) (w : World) (hl : s.data.toList = ids q) (hs : s.size ≤ maxLen) (hc : w.cell? ⟨S, o, none⟩ = some (.map (some m)))
    (hown : w.ownsMap Yba.prog 9 (plainElem Yba.prog 79) m n (numD ids k)) :
    Calls Yba.prog 22 #[.pointer (some ⟨S, o, none⟩), .string s] w fun e w' => e = .returned (.tuple #[.int .i32 (if q < k then (q : Int) else 0), .bool (decide (q < k))]) ∧ w' = w := by
  refine (num22 S o m n _ s w hs hc hown).mono ?_
  rintro e w' ⟨c, rfl, hat, rfl⟩
  rw [hl] at hat ⊢
  rw [has_numD ids inj q hq k (by omega)]
  by_cases h : q < k
  · rw [at_numD ids inj q _ k (by omega) h] at hat
    have : c = q := by simpa using hat.symm
    subst this
    rw [if_pos h]
    exact ⟨rfl, rfl⟩
  · rw [at_none (by rw [has_numD ids inj q hq k (by omega)]; simpa using h)] at hat
    have : c = 0 := by simpa using hat.symm
    subst this
    rw [if_neg h]
    exact ⟨rfl, rfl⟩


theorem at15 (S o rb n cap : Nat) (q : Int) (w : World) (hc : w.cell? ⟨S, o + 2, none⟩ = some (.slice (some ⟨rb, 0, none⟩) n cap)) (h0 : 0 ≤ q) (h1 : q < n) (hn : n < 4) :
    Calls Yba.prog 15 #[.pointer (some ⟨S, o, none⟩), .int .i32 q] w fun e w' => e = .returned (.pointer (some ⟨rb, q.toNat * 6, none⟩)) ∧ w' = w := by
  obtain ⟨k, rfl⟩ := Int.eq_ofNat_of_zero_le h0
  go_enter Yba.func15, Yba.ntmps15
  go_wp2
  go_ret
  exact ⟨by simp, rfl⟩

def roleOr (b : Bool) (r : Int) : Int := if b then r else 0

set_option maxHeartbeats 400000 in
set_option maxRecDepth 100000 in
theorem roles18 (S rb ho mU M n1 n2 q k : Nat) (ids : Nat → List UInt8) (inj : ∀ i j, i < 4 → j < 4 → ids i = ids j → i = j) (hq : q < 4) (hk : k < 4) (pr : Nat → Bool) (rl : Nat → Int) (s : ByteArray) (w : World) (hl : s.data.toList = ids q) (hs : s.size ≤ maxLen)
    (hc : w.cell? ⟨S, 6, none⟩ = some (.map (some mU))) (hown : w.ownsMap Yba.prog 9 (plainElem Yba.prog 51) mU n1 (numD ids k))
    (hm : w.cell? ⟨rb, ho + 4, none⟩ = some (.map (some M))) (hM : w.ownsMap Yba.prog 51 (plainElem Yba.prog 60) M n2 (memD pr rl k)) :
    Calls Yba.prog 18 #[.pointer (some ⟨S, 0, none⟩), .pointer (some ⟨rb, ho, none⟩), .string s] w fun e w' => e = .returned (.tuple #[.int .u8 (roleOr (decide (q < k) && pr q) (rl q)), .bool (decide (q < k) && pr q)]) ∧ w' = w := by
  have HT := hid (tab13 S 6 mU n1 q k ids inj hq hk s w hl hs hc hown)
  by_cases h : q < k
  · rw [if_pos h] at HT
    have hd : decide (q < k) = true := by simpa using h
    rw [hd] at HT ⊢
    go_enter Yba.func18, Yba.ntmps18
    go_wp2_with fail
    refine HT.out.mono ?_
    rintro e w' ⟨rfl, rfl⟩
    have hwf : (Lit.int .i32 (q : Int)).wf = true := WalkArith.wf_i32 (by omega)
    go_wp2_with (at_lookup; refine wpList_lookup_own_ok_int _ rfl _ _ 61 rfl 51 60 .u8 law51 Yba.underlying61 Yba.underlying60 (zero60 _) M n2 _ rfl hM _ _ rfl (keyOf_int_mk Yba.underlying51 hwf) ?_; intro c hat hwc)
    go_ret2
    rw [has_memD, hd]
    by_cases hp : pr q = true
    · rw [at_memD pr rl q _ k h hp] at hat
      have : c = rl q := by simpa using hat.symm
      subst this
      simp [hp, roleOr]
    · have hp' : pr q = false := by simpa using hp
      rw [at_none (by rw [has_memD, hp']; simp)] at hat
      have : c = 0 := by simpa using hat.symm
      subst this
      simp [hp', roleOr]
  · rw [if_neg h] at HT
    have hd : decide (q < k) = false := by simpa using h
    rw [hd] at HT ⊢
    go_enter Yba.func18, Yba.ntmps18
    go_wp2_with fail
    refine HT.out.mono ?_
    rintro e w' ⟨rfl, rfl⟩
    go_wp2
    go_ret2
    simp [roleOr]

set_option maxHeartbeats 400000 in
set_option maxRecDepth 100000 in
theorem granted19 (S rb ho mP G n1 n2 q k : Nat) (ids : Nat → List UInt8) (inj : ∀ i j, i < 4 → j < 4 → ids i = ids j → i = j) (hq : q < 4) (hk : k < 4) (rl : Nat → Int) (s : ByteArray) (w : World) (hl : s.data.toList = ids q) (hs : s.size ≤ maxLen)
    (hc : w.cell? ⟨S, 9, none⟩ = some (.map (some mP))) (hown : w.ownsMap Yba.prog 9 (plainElem Yba.prog 79) mP n1 (numD ids k))
    (hm : w.cell? ⟨rb, ho + 5, none⟩ = some (.map (some G))) (hG : w.ownsMap Yba.prog 79 (plainElem Yba.prog 60) G n2 (memD (fun _ => true) rl k)) :
    Calls Yba.prog 19 #[.pointer (some ⟨S, 0, none⟩), .pointer (some ⟨rb, ho, none⟩), .string s] w fun e w' => e = .returned (.int .u8 (roleOr (decide (q < k)) (rl q))) ∧ w' = w := by
  have HT := hid (tab22 S 9 mP n1 q k ids inj hq hk s w hl hs hc hown)
  by_cases h : q < k
  · rw [if_pos h] at HT
    have hd : decide (q < k) = true := by simpa using h
    rw [hd] at HT ⊢
    go_enter Yba.func19, Yba.ntmps19
    go_wp2_with fail
    refine HT.out.mono ?_
    rintro e w' ⟨rfl, rfl⟩
    have hwf : (Lit.int .i32 (q : Int)).wf = true := WalkArith.wf_i32 (by omega)
    go_wp2_with (at_lookup; refine wpList_lookup_own_int _ rfl _ _ 62 rfl 79 60 .u8 law79 Yba.underlying62 Yba.underlying60 (zero60 _) G n2 _ rfl hG _ _ rfl (keyOf_int_mk Yba.underlying79 hwf) ?_; intro c hat hwc)
    go_ret
    rw [at_memD (fun _ => true) rl q _ k h rfl] at hat
    have : c = rl q := by simpa using hat.symm
    subst this
    simp [roleOr]
  · rw [if_neg h] at HT
    have hd : decide (q < k) = false := by simpa using h
    rw [hd] at HT ⊢
    go_enter Yba.func19, Yba.ntmps19
    go_wp2_with fail
    refine HT.out.mono ?_
    rintro e w' ⟨rfl, rfl⟩
    go_wp2
    go_ret
    simp [roleOr]

end Go.Proofs.Ybulkbglm
