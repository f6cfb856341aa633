/-
  internal/strconv.ParseUint(s, 16, 64) at a string of sixteen bytes.
-/
import Derived.Test.YbulkbgnqDoorRows
import Derived.Lib.Strings
import Derived.Lib.Walk
import Derived.Lib.ConvBytes
import Derived.Lib.Hide
import Derived.Laws.Strings3
import Derived.Laws.Closers25
import Derived.Laws.Closers25b
import Derived.WalkKit
import Derived.BigCall
import Derived.BigGuard
namespace Go.Proofs.YbulkbgnqDoor
open Go Go.RowKit
set_option linter.unusedSimpArgs false
set_option linter.unusedVariables false

/-- a hexadecimal digit, as the law's own model spells it -/
def hexB (c : UInt8) : Bool :=
  ((decide (48 ≤ c.toNat) && decide (c.toNat ≤ 57)) || (decide (97 ≤ c.toNat) && decide (c.toNat ≤ 102))) || (decide (65 ≤ c.toNat) && decide (c.toNat ≤ 70))

/-- all of them -/
def allHex (l : List UInt8) : Bool := l.all hexB

theorem low_nat : ∀ n : Nat, n < 256 →
    (((48 ≤ n ∧ n ≤ 57) ∨ (97 ≤ n ∧ n ≤ 102)) ∨ (65 ≤ n ∧ n ≤ 70) → ¬ (48 ≤ n ∧ n ≤ 57) → 97 ≤ bits .or .u8 (n : Int) 32 ∧ bits .or .u8 (n : Int) 32 ≤ 102) ∧
    (¬ (((48 ≤ n ∧ n ≤ 57) ∨ (97 ≤ n ∧ n ≤ 102)) ∨ (65 ≤ n ∧ n ≤ 70)) → bits .or .u8 (n : Int) 32 < 97 ∨ 102 < bits .or .u8 (n : Int) 32) := by
  decide +kernel

theorem low_yes {c : UInt8} (h : hexB c = true) (hd : ¬ (48 ≤ c.toNat ∧ c.toNat ≤ 57)) : 97 ≤ bits .or .u8 (c.toNat : Int) 32 ∧ bits .or .u8 (c.toNat : Int) 32 ≤ 102 := by
  refine (low_nat c.toNat c.toNat_lt).1 ?_ hd
  simpa [hexB] using h

theorem low_no {c : UInt8} (h : hexB c = false) : ¬ (48 ≤ c.toNat ∧ c.toNat ≤ 57) ∧ (bits .or .u8 (c.toNat : Int) 32 < 97 ∨ 102 < bits .or .u8 (c.toNat : Int) 32) := by
  have hn : ¬ (((48 ≤ c.toNat ∧ c.toNat ≤ 57) ∨ (97 ≤ c.toNat ∧ c.toNat ≤ 102)) ∨ (65 ≤ c.toNat ∧ c.toNat ≤ 70)) := by
    intro hh
    have : hexB c = true := by simpa [hexB] using hh
    rw [this] at h; cases h
  exact ⟨fun hh => hn (.inl (.inl hh)), (low_nat c.toNat c.toNat_lt).2 hn⟩

set_option maxHeartbeats 4000000 in
theorem lower11 (c : Int) (w : World) : Calls Ybad.prog 11 #[.int .u8 c] w fun e w' => e = .returned (.int .u8 (bits .or .u8 c 32)) ∧ w' = w := by
  go_enter Ybad.func11, Ybad.ntmps11
  go_wp2
  go_ret
  exact ⟨rfl, rfl⟩

theorem pow_le15 {k : Nat} (h : k < 16) : (16 : Int) ^ k ≤ 1152921504606846976 := by
  have h1 : (16 : Nat) ^ k ≤ 16 ^ 15 := Nat.pow_le_pow_right (by omega) (by omega)
  have h2 : ((16 ^ k : Nat) : Int) ≤ ((16 ^ 15 : Nat) : Int) := Int.ofNat_le.2 h1
  simpa using h2

set_option maxHeartbeats 32000000 in
set_option maxRecDepth 100000 in
theorem inner9 (t : ByteArray) (ht : t.size = 16) (w : World) :
    Calls Ybad.prog 9 #[.string t, .int .i64 16, .int .i64 64] w fun e w' =>
      ((allHex t.data.toList = true → ∃ v : Int, e = .returned (.tuple #[.int .u64 v, .nilIface])) ∧ (allHex t.data.toList = false → e = .returned (.tuple #[.int .u64 0, .iface 37 (.int .i64 2)]))) ∧ w' = Lib.bytesWorld w 5 t := by
  have hemp : t.toList.isEmpty = false := by
    rw [← decide_eq_emptyBytes]
    exact decide_eq_false (fun h => by rw [h] at ht; exact absurd ht (by decide))
  have hcv := Lib.run_convert_string_bytes (P := Ybad.prog) w 9 28 5 t (u := .string) Ybad.underlying9 Ybad.underlying28 Ybad.underlying5
  have hB : ∀ j, j < t.size → (Lib.bytesWorld w 5 t).cell? ⟨w.heap.size, j, none⟩ = some (.int .u8 (t.data.toList.getD j 0).toNat) := fun j hj => Lib.bytesWorld_cell w 5 t j hj
  obtain ⟨W1, hW1⟩ : ∃ W1, W1 = Lib.bytesWorld w 5 t := ⟨_, rfl⟩
  rw [← hW1] at hcv hB ⊢
  clear hW1
  obtain ⟨bs, hL⟩ : ∃ bs, bs = t.data.toList := ⟨_, rfl⟩
  have hLn : bs.length = t.size := by rw [hL, Lib.size_eq]
  rw [← hL] at hB ⊢
  clear hL
  have hmv : IntKind.u64.wrap (IntKind.u64.wrap 18446744073709551616 - 1) = 18446744073709551615 := by
    rw [IntKind.wrap_u64, IntKind.wrap_u64]
    decide
  go_enter Ybad.func9, Ybad.ntmps9
  go_wp2
  go_loop [12, 13, 101] (fun vu vn vi => ∃ (k : Nat) (a : Int), vu = .bool false ∧ vn = .int .u64 a ∧ vi = .int .i64 k ∧ k ≤ t.size ∧ 0 ≤ a ∧ Hid (a < 16 ^ k ∧ (bs.take k).all hexB = true))
    (fun _ _ vi => t.size - (intOf vi).toNat)
  case atStart => exact ⟨0, 0, rfl, rfl, rfl, by omega, by omega, by decide, rfl⟩
  case round =>
    obtain ⟨k, a, rfl, rfl, rfl, hk, a0, hh⟩ := hrel
    obtain ⟨ha, hall⟩ := hh.out
    clear hh
    by_cases hkn : k < t.size
    · have hc := hB k hkn
      have hlt : k < bs.length := by omega
      have hget : bs.getD k 0 = bs[k]'hlt := by simp [List.getD, List.getElem?_eq_getElem hlt]
      have htake : bs.take (k + 1) = bs.take k ++ [bs[k]'hlt] := by rw [List.take_add_one, List.getElem?_eq_getElem hlt]; rfl
      have hmem : bs[k]'hlt ∈ bs := List.getElem_mem hlt
      rw [hget] at hc
      generalize bs[k]'hlt = c at hc htake hmem
      have hc256 : c.toNat < 256 := c.toNat_lt
      have hp := pow_le15 (k := k) (by omega)
      have a1 : a < 1152921504606846976 := by omega
      have hpk : (16 : Int) ^ (k + 1) = 16 ^ k * 16 := Int.pow_succ _ _
      clear hB hget hlt
      have hv0 := bits_lo_u8 .or (c.toNat : Int) 32
      have hv1 := bits_hi_u8 .or (c.toNat : Int) 32
      cases hx : hexB c with
      | true =>
        have HA : Hid ((bs.take (k + 1)).all hexB = true) := by
          show _ = true
          rw [htake, List.all_append, hall]
          simp [hx]
        by_cases hdig : 48 ≤ c.toNat ∧ c.toNat ≤ 57
        · obtain ⟨hd0, hd1⟩ := hdig
          have HN : Hid (a * 16 + ((c.toNat : Int) - 48) < 16 ^ (k + 1) ∧ (bs.take (k + 1)).all hexB = true) := Lib.hid ⟨by rw [hpk]; omega, HA.out⟩
          clear HA hp ha hpk hall htake hv0 hv1 hmem
          go_wp2
          exact ⟨⟨k + 1, a * 16 + ((c.toNat : Int) - 48), rfl, (by first | rfl | (congr 1; omega)), (by first | rfl | (congr 1; omega)), by omega, by omega, HN⟩, by simp [intOf]; omega⟩
        · obtain ⟨hl0, hl1⟩ := low_yes hx hdig
          obtain ⟨v, hv⟩ : ∃ v : Int, v = bits .or .u8 (c.toNat : Int) 32 := ⟨_, rfl⟩
          have hlow : ∀ W, Calls Ybad.prog 11 #[.int .u8 (c.toNat : Int)] W fun e w' => e = .returned (.int .u8 v) ∧ w' = W := fun W => by rw [hv]; exact lower11 _ W
          rw [← hv] at hl0 hl1 hv0 hv1
          clear hv
          have h95 : ¬ ((c.toNat : Int) = 95) := by
            have := hx
            simp [hexB] at this
            omega
          have HN : Hid (a * 16 + (v - 97 + 10) < 16 ^ (k + 1) ∧ (bs.take (k + 1)).all hexB = true) := Lib.hid ⟨by rw [hpk]; omega, HA.out⟩
          have hlow := Lib.hid hlow
          clear HA hp ha hpk hall htake hv0 hv1 hmem
          go_wp2_with (go_at_call 11; refine (hlow.out _).mono ?_; rintro e w' ⟨rfl, rfl⟩)
          all_goals exact ⟨⟨k + 1, a * 16 + (v - 97 + 10), rfl, (by first | rfl | (congr 1; omega)), (by first | rfl | (congr 1; omega)), by omega, by omega, HN⟩, by simp [intOf]; omega⟩
      | false =>
        have HF : Hid (allHex bs = false) := by
          show _ = false
          show bs.all hexB = false
          rw [Bool.eq_false_iff]
          intro hall'
          have := List.all_eq_true.1 hall' c hmem
          rw [hx] at this; cases this
        obtain ⟨hdig, hl⟩ := low_no hx
        by_cases h95 : c.toNat = 95
        · rw [h95] at hc
          have hlow := Lib.hid (fun W => lower11 95 W)
          have hb : bits .or .u8 95 32 = 127 := by decide
          clear hp ha hpk hall htake hmem hl hdig h95 hx hv0 hv1 hc256
          go_wp2_with (go_at_call 11; refine (hlow.out _).mono ?_; rintro e w' ⟨rfl, rfl⟩)
          all_goals go_ret2
          all_goals exact ⟨⟨fun h => absurd (HF.out.symm.trans h) (by decide), fun _ => rfl⟩, rfl⟩
        · obtain ⟨v, hv⟩ : ∃ v : Int, v = bits .or .u8 (c.toNat : Int) 32 := ⟨_, rfl⟩
          have hlow : ∀ W, Calls Ybad.prog 11 #[.int .u8 (c.toNat : Int)] W fun e w' => e = .returned (.int .u8 v) ∧ w' = W := fun W => by rw [hv]; exact lower11 _ W
          rw [← hv] at hl hv0 hv1
          clear hv
          have hlow := Lib.hid hlow
          have i95 : ¬ ((c.toNat : Int) = 95) := by omega
          clear hp ha hpk hall htake hmem h95
          go_wp2_with (go_at_call 11; refine (hlow.out _).mono ?_; rintro e w' ⟨rfl, rfl⟩)
          all_goals go_ret2
          all_goals exact ⟨⟨fun h => absurd (HF.out.symm.trans h) (by decide), fun _ => rfl⟩, rfl⟩
    · have hkk : k = t.size := by omega
      have HF : Hid (allHex bs = true) := by
        show bs.all hexB = true
        rw [List.take_of_length_le (by omega)] at hall
        exact hall
      subst hkk
      clear hall ha
      go_wp2
      go_ret2
      exact ⟨⟨fun _ => ⟨_, rfl⟩, fun h => absurd (HF.out.symm.trans h) (by decide)⟩, rfl⟩

end Go.Proofs.YbulkbgnqDoor
