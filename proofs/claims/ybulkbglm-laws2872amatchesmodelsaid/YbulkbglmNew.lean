/-
  newTable (9 to 12), newState (5).
-/
import Derived.Test.YbulkbglmRows
import Derived.Test.YbulkbglmBase
namespace Go.Proofs.Ybulkbglm
open Go Go.RowKit
set_option linter.unusedSimpArgs false
set_option linter.unusedVariables false

/-- What a new table leaves: a map without entries and two rows without cells. -/
structure Made (w w' : World) (N e : Nat) : Prop where
  size : w'.heap.size = N + 4
  map : w'.heap[N + 1]? = some (.map #[] 0)
  ids : w'.heap[N + 2]? = some (.cells #[] 9 (0, 0))
  recs : w'.heap[N + 3]? = some (.cells #[] e (0, 0))
  below : Below N w w'

theorem made_of (w : World) (o : Obj) (e : Nat) : Made w ((((w.alloc o).alloc (.map #[] 0)).alloc (.cells #[] 9)).alloc (.cells #[] e)) w.heap.size e := by
  refine ⟨by simp, ?_, ?_, ?_, ?_⟩
  · rw [Below.heap_alloc _ _ _ (by simp), Below.heap_alloc _ _ _ (by simp)]
    have := heap_alloc_last (w.alloc o) (.map #[] 0)
    simpa using this
  · rw [Below.heap_alloc _ _ _ (by simp)]
    have := heap_alloc_last ((w.alloc o).alloc (.map #[] 0)) (.cells #[] 9)
    simpa using this
  · have := heap_alloc_last (((w.alloc o).alloc (.map #[] 0)).alloc (.cells #[] 9)) (.cells #[] e)
    simpa using this
  · exact ((((Below.refl _ w).alloc (Nat.le_refl _) _).alloc (by simp) _).alloc (by simp <;> omega) _).alloc (by simp <;> omega) _

set_option maxHeartbeats 400000 in
set_option maxRecDepth 100000 in
theorem newTable9 (w : World) : Calls Yba.prog 9 #[] w fun e w' => e = .returned (.agg #[.map (some (w.heap.size + 1)), .slice (some ⟨w.heap.size + 1 + 1, 0, none⟩) 0 0, .slice (some ⟨w.heap.size + 1 + 1 + 1, 0, none⟩) 0 0]) ∧
    w' = (((w.alloc (.cells #[.map (some (w.heap.size + 1)), .slice (some ⟨w.heap.size + 1 + 1, 0, none⟩) 0 0, .slice (some ⟨w.heap.size + 1 + 1 + 1, 0, none⟩) 0 0] 32)).alloc (.map #[] 0)).alloc (.cells #[] 9)).alloc (.cells #[] 59) := by
  have hmm := @run_makeMap Yba.prog
  go_enter Yba.func9, Yba.ntmps9
  go_wp2
  exact bodyPost_ret (v := .agg #[.map (some (w.heap.size + 1)), .slice (some ⟨w.heap.size + 1 + 1, 0, none⟩) 0 0, .slice (some ⟨w.heap.size + 1 + 1 + 1, 0, none⟩) 0 0]) (by simp [results, Yba.results9, go_sem]) rfl ⟨rfl, rfl⟩

theorem table9 (w : World) (N : Nat) (hN : N = w.heap.size) : Calls Yba.prog 9 #[] w fun e w' => e = .returned (.agg #[.map (some (N + 1)), .slice (some ⟨N + 2, 0, none⟩) 0 0, .slice (some ⟨N + 3, 0, none⟩) 0 0]) ∧
    Made w w' N 59 := by
  subst hN
  exact (newTable9 w).mono fun e w' ⟨h1, h2⟩ => ⟨h1, by subst h2; exact made_of _ _ _⟩


set_option maxHeartbeats 400000 in
set_option maxRecDepth 100000 in
theorem newTable10 (w : World) : Calls Yba.prog 10 #[] w fun e w' => e = .returned (.agg #[.map (some (w.heap.size + 1)), .slice (some ⟨w.heap.size + 1 + 1, 0, none⟩) 0 0, .slice (some ⟨w.heap.size + 1 + 1 + 1, 0, none⟩) 0 0]) ∧
    w' = (((w.alloc (.cells #[.map (some (w.heap.size + 1)), .slice (some ⟨w.heap.size + 1 + 1, 0, none⟩) 0 0, .slice (some ⟨w.heap.size + 1 + 1 + 1, 0, none⟩) 0 0] 36)).alloc (.map #[] 0)).alloc (.cells #[] 9)).alloc (.cells #[] 64) := by
  have hmm := @run_makeMap Yba.prog
  go_enter Yba.func10, Yba.ntmps10
  go_wp2
  exact bodyPost_ret (v := .agg #[.map (some (w.heap.size + 1)), .slice (some ⟨w.heap.size + 1 + 1, 0, none⟩) 0 0, .slice (some ⟨w.heap.size + 1 + 1 + 1, 0, none⟩) 0 0]) (by simp [results, Yba.results10, go_sem]) rfl ⟨rfl, rfl⟩

theorem table10 (w : World) (N : Nat) (hN : N = w.heap.size) : Calls Yba.prog 10 #[] w fun e w' => e = .returned (.agg #[.map (some (N + 1)), .slice (some ⟨N + 2, 0, none⟩) 0 0, .slice (some ⟨N + 3, 0, none⟩) 0 0]) ∧
    Made w w' N 64 := by
  subst hN
  exact (newTable10 w).mono fun e w' ⟨h1, h2⟩ => ⟨h1, by subst h2; exact made_of _ _ _⟩


set_option maxHeartbeats 400000 in
set_option maxRecDepth 100000 in
theorem newTable11 (w : World) : Calls Yba.prog 11 #[] w fun e w' => e = .returned (.agg #[.map (some (w.heap.size + 1)), .slice (some ⟨w.heap.size + 1 + 1, 0, none⟩) 0 0, .slice (some ⟨w.heap.size + 1 + 1 + 1, 0, none⟩) 0 0]) ∧
    w' = (((w.alloc (.cells #[.map (some (w.heap.size + 1)), .slice (some ⟨w.heap.size + 1 + 1, 0, none⟩) 0 0, .slice (some ⟨w.heap.size + 1 + 1 + 1, 0, none⟩) 0 0] 40)).alloc (.map #[] 0)).alloc (.cells #[] 9)).alloc (.cells #[] 66) := by
  have hmm := @run_makeMap Yba.prog
  go_enter Yba.func11, Yba.ntmps11
  go_wp2
  exact bodyPost_ret (v := .agg #[.map (some (w.heap.size + 1)), .slice (some ⟨w.heap.size + 1 + 1, 0, none⟩) 0 0, .slice (some ⟨w.heap.size + 1 + 1 + 1, 0, none⟩) 0 0]) (by simp [results, Yba.results11, go_sem]) rfl ⟨rfl, rfl⟩

theorem table11 (w : World) (N : Nat) (hN : N = w.heap.size) : Calls Yba.prog 11 #[] w fun e w' => e = .returned (.agg #[.map (some (N + 1)), .slice (some ⟨N + 2, 0, none⟩) 0 0, .slice (some ⟨N + 3, 0, none⟩) 0 0]) ∧
    Made w w' N 66 := by
  subst hN
  exact (newTable11 w).mono fun e w' ⟨h1, h2⟩ => ⟨h1, by subst h2; exact made_of _ _ _⟩


set_option maxHeartbeats 400000 in
set_option maxRecDepth 100000 in
theorem newTable12 (w : World) : Calls Yba.prog 12 #[] w fun e w' => e = .returned (.agg #[.map (some (w.heap.size + 1)), .slice (some ⟨w.heap.size + 1 + 1, 0, none⟩) 0 0, .slice (some ⟨w.heap.size + 1 + 1 + 1, 0, none⟩) 0 0]) ∧
    w' = (((w.alloc (.cells #[.map (some (w.heap.size + 1)), .slice (some ⟨w.heap.size + 1 + 1, 0, none⟩) 0 0, .slice (some ⟨w.heap.size + 1 + 1 + 1, 0, none⟩) 0 0] 43)).alloc (.map #[] 0)).alloc (.cells #[] 9)).alloc (.cells #[] 66) := by
  have hmm := @run_makeMap Yba.prog
  go_enter Yba.func12, Yba.ntmps12
  go_wp2
  exact bodyPost_ret (v := .agg #[.map (some (w.heap.size + 1)), .slice (some ⟨w.heap.size + 1 + 1, 0, none⟩) 0 0, .slice (some ⟨w.heap.size + 1 + 1 + 1, 0, none⟩) 0 0]) (by simp [results, Yba.results12, go_sem]) rfl ⟨rfl, rfl⟩

theorem table12 (w : World) (N : Nat) (hN : N = w.heap.size) : Calls Yba.prog 12 #[] w fun e w' => e = .returned (.agg #[.map (some (N + 1)), .slice (some ⟨N + 2, 0, none⟩) 0 0, .slice (some ⟨N + 3, 0, none⟩) 0 0]) ∧
    Made w w' N 66 := by
  subst hN
  exact (newTable12 w).mono fun e w' ⟨h1, h2⟩ => ⟨h1, by subst h2; exact made_of _ _ _⟩


/-- The state's 20 cells. -/
def stA (mO : Nat) (oi oR : Value) (mH : Nat) (hi hR : Value) (mU : Nat) (ui uR : Value) (mP : Nat) (pi pR : Value) (c1 c2 c3 c4 : Nat) : Array Value :=
  #[.map (some mO), oi, oR, .map (some mH), hi, hR, .map (some mU), ui, uR, .map (some mP), pi, pR, .map (some c1), .map (some c2), .map (some c3), .map (some c4), .int .i64 0, .int .i64 0, .int .i64 0, .int .i64 0]

def sl0 (n : Nat) : Value := .slice (some ⟨n, 0, none⟩) 0 0

/-- What newState leaves, N the heap's size ahead of it: the state lies at N + 20. -/
structure NewSt (w w' : World) (N : Nat) : Prop where
  size : w'.heap.size = N + 21
  st : w'.heap[N + 20]? = some (.cells (stA (N + 1) (sl0 (N + 2)) (sl0 (N + 3)) (N + 5) (sl0 (N + 6)) (sl0 (N + 7)) (N + 9) (sl0 (N + 10)) (sl0 (N + 11)) (N + 13) (sl0 (N + 14)) (sl0 (N + 15)) (N + 16) (N + 17) (N + 18) (N + 19)) 49 (0, 0))
  mO : w'.heap[N + 1]? = some (.map #[] 0)
  oi : w'.heap[N + 2]? = some (.cells #[] 9 (0, 0))
  oR : w'.heap[N + 3]? = some (.cells #[] 59 (0, 0))
  mH : w'.heap[N + 5]? = some (.map #[] 0)
  hi : w'.heap[N + 6]? = some (.cells #[] 9 (0, 0))
  hR : w'.heap[N + 7]? = some (.cells #[] 64 (0, 0))
  mU : w'.heap[N + 9]? = some (.map #[] 0)
  ui : w'.heap[N + 10]? = some (.cells #[] 9 (0, 0))
  uR : w'.heap[N + 11]? = some (.cells #[] 66 (0, 0))
  mP : w'.heap[N + 13]? = some (.map #[] 0)
  pi : w'.heap[N + 14]? = some (.cells #[] 9 (0, 0))
  pR : w'.heap[N + 15]? = some (.cells #[] 66 (0, 0))
  memberOf : w'.heap[N + 17]? = some (.map #[] 0)
  below : Below N w w'

theorem five_at (w : World) (o1 o2 o3 o4 o5 : Obj) (N : Nat) (h : w.heap.size = N) :
    (((((w.alloc o1).alloc o2).alloc o3).alloc o4).alloc o5).heap[N + 4]? = some o5 ∧ (((((w.alloc o1).alloc o2).alloc o3).alloc o4).alloc o5).heap[N + 1]? = some o2 ∧ (((((w.alloc o1).alloc o2).alloc o3).alloc o4).alloc o5).heap.size = N + 5 ∧
      Below w.heap.size w (((((w.alloc o1).alloc o2).alloc o3).alloc o4).alloc o5) := by
  subst h
  refine ⟨?_, ?_, by simp, ?_⟩
  · have := heap_alloc_last ((((w.alloc o1).alloc o2).alloc o3).alloc o4) o5
    simpa using this
  · rw [Below.heap_alloc _ _ _ (by simp <;> omega), Below.heap_alloc _ _ _ (by simp), Below.heap_alloc _ _ _ (by simp)]
    have := heap_alloc_last (w.alloc o1) o2
    simpa using this
  · exact (((((Below.refl _ w).alloc (Nat.le_refl _) _).alloc (by simp) _).alloc (by simp <;> omega) _).alloc (by simp <;> omega) _).alloc (by simp <;> omega) _

theorem newSt_of {w w1 w2 w3 w4 : World} {N : Nat} (m1 : Made w w1 N 59) (m2 : Made w1 w2 (N + 4) 64) (m3 : Made w2 w3 (N + 8) 66) (m4 : Made w3 w4 (N + 12) 66) :
    NewSt w (((((w4.alloc (.map #[] 0)).alloc (.map #[] 0)).alloc (.map #[] 0)).alloc (.map #[] 0)).alloc (.cells (stA (N + 1) (sl0 (N + 2)) (sl0 (N + 3)) (N + 5) (sl0 (N + 6)) (sl0 (N + 7)) (N + 9) (sl0 (N + 10)) (sl0 (N + 11)) (N + 13) (sl0 (N + 14)) (sl0 (N + 15)) (N + 16) (N + 17) (N + 18) (N + 19)) 49)) N := by
  obtain ⟨h5, h2, hs, hb⟩ := five_at w4 (.map #[] 0) (.map #[] 0) (.map #[] 0) (.map #[] 0) (.cells (stA (N + 1) (sl0 (N + 2)) (sl0 (N + 3)) (N + 5) (sl0 (N + 6)) (sl0 (N + 7)) (N + 9) (sl0 (N + 10)) (sl0 (N + 11)) (N + 13) (sl0 (N + 14)) (sl0 (N + 15)) (N + 16) (N + 17) (N + 18) (N + 19)) 49) (N + 16) m4.size
  have b4 := m4.below
  have b3 := m3.below
  have b2 := m2.below
  have s4 := m4.size
  have k4 : ∀ {p : Nat} {x : Obj}, w4.heap[p]? = some x → _ := fun {p x} h => below_block hb (lt_block h) h
  have k3 : ∀ {p : Nat} {x : Obj}, w3.heap[p]? = some x → p < N + 12 → _ := fun {p x} h hp => k4 (below_block b4 hp h)
  have k2 : ∀ {p : Nat} {x : Obj}, w2.heap[p]? = some x → p < N + 8 → _ := fun {p x} h hp => k3 (below_block b3 hp h) (by omega)
  have k1 : ∀ {p : Nat} {x : Obj}, w1.heap[p]? = some x → p < N + 4 → _ := fun {p x} h hp => k2 (below_block b2 hp h) (by omega)
  exact ⟨hs, h5, k1 m1.map (by omega), k1 m1.ids (by omega), k1 m1.recs (by omega), k2 m2.map (by omega), k2 m2.ids (by omega), k2 m2.recs (by omega), k3 m3.map (by omega), k3 m3.ids (by omega), k3 m3.recs (by omega), k4 m4.map, k4 m4.ids, k4 m4.recs, h2,
    m1.below.trans ((b2.mono (by omega)).trans ((b3.mono (by omega)).trans ((b4.mono (by omega)).trans (hb.mono (by omega)))))⟩

set_option maxHeartbeats 1000000 in
set_option maxRecDepth 100000 in
theorem newState_any (w : World) (N : Nat) (hN : N = w.heap.size) : Calls Yba.prog 5 #[] w fun e w' => e = .returned (.pointer (some ⟨N + 20, 0, none⟩)) ∧ NewSt w w' N := by
  have hmm := @run_makeMap Yba.prog
  have HN := hid hN
  clear hN
  go_enter Yba.func5, Yba.ntmps5
  go_wp2_with fail
  refine (table9 w N HN.out).mono ?_
  rintro e w1 ⟨rfl, m1⟩
  have s1 := m1.size
  go_wp2_with fail
  refine (table10 w1 (N + 4) (by omega)).mono ?_
  rintro e w2 ⟨rfl, m2⟩
  have s2 := m2.size
  clear s1
  go_wp2_with fail
  refine (table11 w2 (N + 8) (by omega)).mono ?_
  rintro e w3 ⟨rfl, m3⟩
  have s3 := m3.size
  clear s2
  go_wp2_with fail
  refine (table12 w3 (N + 12) (by omega)).mono ?_
  rintro e w4 ⟨rfl, m4⟩
  have s4 := m4.size
  clear s3
  have M := hid (newSt_of m1 m2 m3 m4)
  clear m1 m2 m3 m4 HN hmm
  have hmm := @run_makeMap Yba.prog
  go_wp2
  go_ret
  exact ⟨rfl, M.out⟩

end Go.Proofs.Ybulkbglm
