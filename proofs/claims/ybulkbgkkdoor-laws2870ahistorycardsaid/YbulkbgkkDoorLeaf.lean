/-
  The leaves: zzs2870ashort (6), (littleEndian).AppendUint32 (8), (littleEndian).Uint32 (19).
-/
import Derived.Test.YbulkbgkkDoorRows
import Derived.Test.YbulkbgkkDoorPlain
import Derived.WalkKit
namespace Go.Proofs.YbulkbgkkDoor
open Go.RowKit
set_option linter.unusedSimpArgs false

theorem Ybad.info5 : (Ybad.prog.info? 5).map (fun i => (i.zero, i.size, i.bytes)) = some (some (.int .u8 0), 1, 1) := by kernel_rfl

def recVal (r : Rec) : Value := .agg #[.int .u32 r.g, .int .u32 r.c, .int .u32 r.m, .bool r.l]

theorem short_any (r : Rec) (w : World) :
    Calls Ybad.prog 6 #[.agg #[.int .u32 r.g, .int .u32 r.c, .int .u32 r.m, .bool r.l]] w fun e w' => e = .returned (.bool (isShort r)) ∧ w' = w.alloc (.cells #[.int .u32 r.g, .int .u32 r.c, .int .u32 r.m, .bool r.l] 43) := by
  obtain ⟨g, c, m, l⟩ := r
  unfold isShort
  cases l
  · by_cases h1 : (g : Int) < 127
    · by_cases h2 : (c : Int) < 128
      · by_cases h3 : (m : Int) < 1024
        · have e1 : g < 127 := by omega
          have e2 : c < 128 := by omega
          have e3 : m < 1024 := by omega
          go_enter Ybad.func6, Ybad.ntmps6
          go_wp2
          go_ret
          exact ⟨by simp [e1, e2, e3], rfl⟩
        · have e3 : ¬ m < 1024 := by omega
          go_enter Ybad.func6, Ybad.ntmps6
          go_wp2
          go_ret
          exact ⟨by simp [e3], rfl⟩
      · have e3 : ¬ c < 128 := by omega
        go_enter Ybad.func6, Ybad.ntmps6
        go_wp2
        go_ret
        exact ⟨by simp [e3], rfl⟩
    · have e3 : ¬ g < 127 := by omega
      go_enter Ybad.func6, Ybad.ntmps6
      go_wp2
      go_ret
      exact ⟨by simp [e3], rfl⟩
  · go_enter Ybad.func6, Ybad.ntmps6
    go_wp2
    go_ret
    exact ⟨by simp, rfl⟩

/-- A block that is no row of bytes stays as it is while the row of bytes grows. -/
theorem block_beside {w w' : World} {B n p t : Nat} {v : Value} {xs : List Value} {C : Array Value} {fr : Nat × Nat} (ht : t ≠ 5) (hown : w.ownsRow B 5 1 v n xs) (G : w.heap[p]? = some (.cells C t fr)) (hg : w.grownBy w' v.ownBlock) :
    w'.heap[p]? = some (.cells C t fr) := by
  rw [hg.block p (Array.getElem?_eq_some_iff.1 G).1 ?_]
  · exact G
  · intro h
    rcases hown.2 with ⟨rfl, _⟩ | ⟨g, cap, cur, rfl, hb, hgg, _⟩
    · simp [Value.ownBlock] at h
    · simp [Value.ownBlock] at h
      subst h
      rw [G] at hgg
      injection hgg with hgg
      injection hgg with _ h2
      exact ht h2

theorem cell_block {w : World} {p t i : Nat} {C : Array Value} {fr : Nat × Nat} {v : Value} (G : w.heap[p]? = some (.cells C t fr)) (hi : C[i]? = some v) : w.cell? ⟨p, i, none⟩ = some v := by
  simp [World.cell?, G, hi]

/-- The cells of the one new block, as an append's law asks them. -/
theorem news_at (w : World) (C : Array Value) (t : TypeId) (l : List Value) (g : Nat) (hg : g = w.heap.size) (hC : C.toList = l) :
    ∀ j u, l[j]? = some u → (w.alloc (.cells C t)).cell? ((⟨g, 0, none⟩ : Addr).add j) = some u := by
  intro j u hj
  subst hC
  have e : (⟨g, 0, none⟩ : Addr).add j = ⟨g, j, none⟩ := by unfold Addr.add; split <;> simp_all
  rw [e, World.cell?_alloc_at _ _ _ _ hg]
  simpa using hj

def bytesV (l : List Int) : List Value := l.map (Value.int .u8)

theorem bytesV_append (a b : List Int) : bytesV (a ++ b) = bytesV a ++ bytesV b := by simp [bytesV]

set_option maxHeartbeats 400000 in
set_option maxRecDepth 100000 in
theorem app32_any (B n v : Nat) (hv : v < 4294967296) (sv : Value) (xs : List Value) (w : World) (hown : w.ownsRow B 5 1 sv n xs) (hBw : B ≤ w.heap.size) (hlim : n + 4 ≤ 140737488355328) :
    Calls Ybad.prog 8 #[.agg #[], sv, .int .u32 v] w fun e w' => ∃ v', e = .returned v' ∧ w'.ownsRow B 5 1 v' (n + 4) (xs ++ bytesV (le4 v)) ∧ w.grownBy w' sv.ownBlock ∧ (v' = .slice none 0 0 → False) := by
  obtain ⟨i0, hi, hz0, hz1, hz2⟩ := info_parts Ybad.info5
  go_enter Ybad.func8, Ybad.ntmps8
  go_wp2_with (at_builtin; refine wpList_append_own _ rfl _ _ 23 rfl B 5 i0 (.int .u8 0) 1 1 Ybad.underlying23 hi hz0 hz1 hz2 rfl (by decide) _ _ _ rfl ((hown.alloc _).alloc _) _ 4 4 (bytesV (le4 v)) rfl rfl ?c1 ?c2 ?c3 ?c4 ?c5 ?_)
  case c1 =>
    intro j u hj
    match j, hj with
    | 0, hj => simp [bytesV, le4] at hj; subst hj; simp [Addr.add]
    | 1, hj => simp [bytesV, le4] at hj; subst hj; simp [Addr.add]
    | 2, hj => simp [bytesV, le4] at hj; subst hj; simp [Addr.add]
    | 3, hj => simp [bytesV, le4] at hj; subst hj; simp [Addr.add]
  case c2 => intro u hu; simp [bytesV, le4] at hu; rcases hu with rfl | rfl | rfl | rfl <;> rfl
  case c3 => unfold maxLen; omega
  case c4 => omega
  case c5 => simp; omega
  intro v' w2 hown' hgrow hnil
  go_wp2
  go_ret
  refine ⟨v', rfl, hown', ?_, hnil⟩
  exact ⟨hgrow.os, hgrow.tape, hgrow.output, by have := hgrow.size; simp at this; omega, fun k hk hne => by rw [hgrow.block k (by simp; omega) hne, Below.heap_alloc _ _ _ (by simp; omega), Below.heap_alloc _ _ _ hk]⟩

end Go.Proofs.YbulkbgkkDoor
