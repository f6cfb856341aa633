/-
  allowed (8) over a state that is told.
-/
import Derived.Test.YbulkbglmAllow
namespace Go.Proofs.Ybulkbglm
open Go Go.RowKit Go.Maps Go.WideMaps
set_option linter.unusedSimpArgs false
set_option linter.unusedVariables false

/-- The hosts' records: what each holds beside its two maps is nought. -/
def hostCells (M G : Nat → Nat) : Nat → List Value
  | 0 => []
  | i + 1 => hostCells M G i ++ [.int .i32 0, .string ⟨#[]⟩, .int .i32 0, .int .u8 0, .map (some (M i)), .map (some (G i))]

theorem hostCells_length (M G : Nat → Nat) (n : Nat) : (hostCells M G n).length = n * 6 := by
  induction n with
  | zero => rfl
  | succ n ih => simp [hostCells, ih]; omega

theorem hostCells_at (M G : Nat → Nat) (i n : Nat) (h : i < n) : (hostCells M G n)[i * 6 + 4]? = some (.map (some (M i))) ∧ (hostCells M G n)[i * 6 + 5]? = some (.map (some (G i))) := by
  induction n with
  | zero => omega
  | succ n ih =>
    unfold hostCells
    have hl := hostCells_length M G n
    by_cases e : i = n
    · subst e
      rw [List.getElem?_append_right (by omega), List.getElem?_append_right (by omega), hl]
      have e1 : i * 6 + 4 - i * 6 = 4 := by omega
      have e2 : i * 6 + 5 - i * 6 = 5 := by omega
      rw [e1, e2]
      exact ⟨rfl, rfl⟩
    · rw [List.getElem?_append_left (by omega), List.getElem?_append_left (by omega)]
      exact ih (by omega)

theorem hostCells_congr {M G M' G' : Nat → Nat} (n : Nat) (h : ∀ i, i < n → M i = M' i ∧ G i = G' i) : hostCells M G n = hostCells M' G' n := by
  induction n with
  | zero => rfl
  | succ n ih => unfold hostCells; rw [ih (fun i hi => h i (by omega)), (h n (by omega)).1, (h n (by omega)).2]

theorem add0 (g j : Nat) : (⟨g, 0, none⟩ : Addr).add j = ⟨g, j, none⟩ := by unfold Addr.add; split <;> simp_all

theorem host_cell {w : World} {rb n cap : Nat} {M G : Nat → Nat} (h : w.ownsRow 0 64 6 (.slice (some ⟨rb, 0, none⟩) n cap) n (hostCells M G n)) (i : Nat) (hi : i < n) :
    w.cell? ⟨rb, i * 6 + 4, none⟩ = some (.map (some (M i))) ∧ w.cell? ⟨rb, i * 6 + 5, none⟩ = some (.map (some (G i))) := by
  obtain ⟨h1, h2⟩ := hostCells_at M G i n hi
  have c1 := h.cells (g := rb) rfl _ _ h1
  have c2 := h.cells (g := rb) rfl _ _ h2
  rw [add0] at c1 c2
  exact ⟨c1, c2⟩

/-- The whole state as the look-ups read it. -/
structure Ready (w : World) (S mH mU mP rb cap nh nu np n1 n2 : Nat) (hs us ps : Nat → List UInt8) (M G : Nat → Nat) (P : Nat → Nat → Bool) (R T : Nat → Nat → Int) : Prop where
  c3 : w.cell? ⟨S, 3, none⟩ = some (.map (some mH))
  c5 : w.cell? ⟨S, 5, none⟩ = some (.slice (some ⟨rb, 0, none⟩) nh cap)
  c6 : w.cell? ⟨S, 6, none⟩ = some (.map (some mU))
  c9 : w.cell? ⟨S, 9, none⟩ = some (.map (some mP))
  oH : w.ownsMap Yba.prog 9 (plainElem Yba.prog 57) mH n1 (numD hs nh)
  oU : w.ownsMap Yba.prog 9 (plainElem Yba.prog 51) mU n1 (numD us nu)
  oP : w.ownsMap Yba.prog 9 (plainElem Yba.prog 79) mP n1 (numD ps np)
  row : w.ownsRow 0 64 6 (.slice (some ⟨rb, 0, none⟩) nh cap) nh (hostCells M G nh)
  mem : ∀ i, i < nh → w.ownsMap Yba.prog 51 (plainElem Yba.prog 60) (M i) n2 (memD (P i) (R i) nu)
  grt : ∀ i, i < nh → w.ownsMap Yba.prog 79 (plainElem Yba.prog 60) (G i) n2 (memD (fun _ => true) (T i) np)

def wantB (nh nu np qh qu qp : Nat) (P : Nat → Nat → Bool) (R T : Nat → Nat → Int) : Bool :=
  decide (qh < nh) && decide (qu < nu) && decide (qp < np) && P qh qu && (bits .and .u8 (R qh qu) (T qh qp) != 0)

theorem and_zero_l (b : Int) : bits .and .u8 0 b = 0 := by
  simp [bits]; rfl
theorem and_zero_r (b : Int) : bits .and .u8 b 0 = 0 := by
  simp [bits]; rfl

theorem want_eq (nh nu np qh qu qp : Nat) (P : Nat → Nat → Bool) (R T : Nat → Nat → Int) (h : qh < nh) :
    (bits .and .u8 (roleOr (decide (qu < nu) && P qh qu) (R qh qu)) (roleOr (decide (qp < np)) (T qh qp)) != 0) = wantB nh nu np qh qu qp P R T := by
  unfold wantB roleOr
  have hd : decide (qh < nh) = true := by simpa using h
  rw [hd]
  cases decide (qu < nu) <;> cases decide (qp < np) <;> cases P qh qu <;> simp [and_zero_l, and_zero_r]

set_option maxHeartbeats 400000 in
set_option maxRecDepth 100000 in
theorem allowed8 (S mH mU mP rb cap nh nu np n1 n2 : Nat) (hs us ps : Nat → List UInt8) (M G : Nat → Nat) (P : Nat → Nat → Bool) (R T : Nat → Nat → Int) (w : World) (r : Ready w S mH mU mP rb cap nh nu np n1 n2 hs us ps M G P R T)
    (ih : ∀ i j, i < 4 → j < 4 → hs i = hs j → i = j) (iu : ∀ i j, i < 4 → j < 4 → us i = us j → i = j) (ip : ∀ i j, i < 4 → j < 4 → ps i = ps j → i = j)
    (hnh : nh < 4) (hnu : nu < 4) (hnp : np < 4) (qh qu qp : Nat) (hqh : qh < 4) (hqu : qu < 4) (hqp : qp < 4) (sh su sp : ByteArray) (lh : sh.data.toList = hs qh) (lu : su.data.toList = us qu) (lp : sp.data.toList = ps qp)
    (zh : sh.size ≤ maxLen) (zu : su.size ≤ maxLen) (zp : sp.size ≤ maxLen) :
    Calls Yba.prog 8 #[.pointer (some ⟨S, 0, none⟩), .string su, .string sh, .string sp] w fun e w' => e = .returned (.bool (wantB nh nu np qh qu qp P R T)) ∧ w' = w := by
  have HT := hid (tab17 S 3 mH n1 qh nh hs ih hqh hnh sh w lh zh r.c3 r.oH)
  by_cases h : qh < nh
  · rw [if_pos h] at HT
    have hd : decide (qh < nh) = true := by simpa using h
    rw [hd] at HT
    have HA := hid (at15 S 3 rb nh cap (qh : Int) w r.c5 (by omega) (by omega) (by omega))
    rw [Int.toNat_natCast] at HA
    obtain ⟨m4, m5⟩ := host_cell r.row qh h
    have HR := hid (roles18 S rb (qh * 6) mU (M qh) n1 n2 qu nu us iu hqu hnu (P qh) (R qh) su w lu zu r.c6 r.oU m4 (r.mem qh h))
    have HG := hid (granted19 S rb (qh * 6) mP (G qh) n1 n2 qp np ps ip hqp hnp (T qh) sp w lp zp r.c9 r.oP m5 (r.grt qh h))
    have HW := hid (want_eq nh nu np qh qu qp P R T h)
    clear r m4 m5 hd
    go_enter Yba.func8, Yba.ntmps8
    go_wp2_with fail
    refine HT.out.mono ?_
    rintro e w' ⟨rfl, rfl⟩
    go_wp2_with fail
    refine HA.out.mono ?_
    rintro e w' ⟨rfl, rfl⟩
    go_wp2_with fail
    refine HR.out.mono ?_
    rintro e w' ⟨rfl, rfl⟩
    go_wp2_with fail
    refine HG.out.mono ?_
    rintro e w' ⟨rfl, rfl⟩
    go_wp2
    go_ret
    exact ⟨by rw [← HW.out]; rfl, rfl⟩
  · rw [if_neg h] at HT
    have hd : decide (qh < nh) = false := by simpa using h
    rw [hd] at HT
    have HW : Hid (wantB nh nu np qh qu qp P R T = false) := by unfold Hid wantB; rw [hd]; simp
    clear r hd
    go_enter Yba.func8, Yba.ntmps8
    go_wp2_with fail
    refine HT.out.mono ?_
    rintro e w' ⟨rfl, rfl⟩
    go_wp2
    go_ret
    exact ⟨by rw [HW.out]; rfl, rfl⟩

end Go.Proofs.Ybulkbglm
