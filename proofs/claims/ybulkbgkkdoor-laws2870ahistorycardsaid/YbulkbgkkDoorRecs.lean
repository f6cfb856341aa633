/-
  LawS2870ARecords (3): the walk.
-/
import Derived.Test.YbulkbgkkDoorCur
namespace Go.Proofs.YbulkbgkkDoor
open Go.RowKit
set_option linter.unusedSimpArgs false
set_option linter.unusedVariables false

/-- What holds of the world at a round's head. -/
def AtRound (w : World) (C : Nat) (bv : Value) (rs : List Rec) (k ky : Nat) (wr : World) : Prop :=
  ∃ (id key cnt mx : Int) (ok : Bool) (rcnt rmx : Int) (rok : Bool),
    wr.heap[C]? = some (.cells (curA id key cnt mx ok bv ((enc (rs.take k)).length : Nat) ky rcnt rmx rok k) 41 (0, 0)) ∧
    wr.ownsRow w.heap.size 5 1 bv (enc rs).length (bytesV (enc rs)) ∧ Below w.heap.size w wr

theorem enc_len (rs : List Rec) (k : Nat) (h : k < rs.length) : (enc (rs.take k)).length + (recLen rs[k]) ≤ (enc rs).length := by
  conv => rhs; rw [enc_split rs k h]
  rw [List.length_append, List.length_append, recBytes_length]; omega

/-- The bytes of record k lie where they should. -/
theorem bytes_at {w wr : World} {g n cap : Nat} {rs : List Rec} (k : Nat) (h : k < rs.length) (hown : wr.ownsRow w.heap.size 5 1 (.slice (some ⟨g, 0, none⟩) n cap) (enc rs).length (bytesV (enc rs))) :
    ∀ j v, (recBytes rs[k])[j]? = some v → wr.cell? ⟨g, (enc (rs.take k)).length + j, none⟩ = some (.int .u8 v) := by
  intro j v hv
  have hadd : ∀ i, (⟨g, 0, none⟩ : Addr).add i = ⟨g, i, none⟩ := fun i => by unfold Addr.add; split <;> simp_all
  have h1 := hown.cells (g := g) rfl ((enc (rs.take k)).length + j) (.int .u8 v) ?_
  · rwa [hadd] at h1
  · unfold bytesV
    rw [List.getElem?_map, enc_split rs k h, List.getElem?_append_right (by omega)]
    have e : (enc (rs.take k)).length + j - (enc (rs.take k)).length = j := by omega
    rw [e, List.getElem?_append_left (by have := (List.getElem?_eq_some_iff.1 hv).1; omega), hv]
    rfl

theorem own_shape {wr : World} {B g n cap m : Nat} {xs : List Value} (hown : wr.ownsRow B 5 1 (.slice (some ⟨g, 0, none⟩) m cap) n xs) : m = n ∧ n ≤ cap ∧ B ≤ g ∧ g < wr.heap.size ∧ ∃ cur, wr.heap[g]? = some (.cells cur 5 (0, 0)) := by
  rcases hown.2 with ⟨h, _⟩ | ⟨g', cap', cur, h, h1, h2, h3, _⟩
  · simp at h
  · simp at h
    obtain ⟨rfl, rfl, rfl⟩ := h
    exact ⟨rfl, h3, h1, (Array.getElem?_eq_some_iff.1 h2).1, cur, h2⟩

/-- The row of bytes is not the cursor. -/
theorem row_ne {wr : World} {g C : Nat} {A : Array Value} {cur : Array Value} (h1 : wr.heap[g]? = some (.cells cur 5 (0, 0))) (h2 : wr.heap[C]? = some (.cells A 41 (0, 0))) : g ≠ C := by
  rintro rfl
  rw [h1] at h2
  simp at h2

theorem own_kept {B C : Nat} {w w' : World} {v : Value} {n : Nat} {xs : List Value} {A : Array Value} (hown : w.ownsRow B 5 1 v n xs) (hC : w.heap[C]? = some (.cells A 41 (0, 0))) (hg : w.grownBy w' (some C)) : w'.ownsRow B 5 1 v n xs := by
  refine hown.kept hg ?_
  rcases hown.2 with ⟨rfl, _⟩ | ⟨g, cap, cur, rfl, _, hgg, _⟩
  · exact .inl rfl
  · refine .inr ?_
    simp only [Value.ownBlock, ne_eq, Option.some.injEq]
    exact row_ne hgg hC

/-- One step of the cursor at record k. -/
theorem step_cur (w wr : World) (g n cap C k ky : Nat) (hkey : ky < 4294967296) (rs : List Rec) (hk : k < rs.length) (h1024 : rs.length ≤ 1024) (hok : ∀ r ∈ rs, r.ok)
    (id key cnt mx : Int) (ok : Bool) (rcnt rmx : Int) (rok : Bool)
    (hC : wr.heap[C]? = some (.cells (curA id key cnt mx ok (.slice (some ⟨g, 0, none⟩) n cap) ((enc (rs.take k)).length : Nat) ky rcnt rmx rok k) 41 (0, 0)))
    (hown : wr.ownsRow w.heap.size 5 1 (.slice (some ⟨g, 0, none⟩) n cap) (enc rs).length (bytesV (enc rs))) :
    Calls Ybad.prog 7 #[.pointer (some ⟨C, 0, none⟩)] wr fun e w' => e = .returned (.tuple #[]) ∧
      w'.heap[C]? = some (.cells (curA ((ky + rs[k].g) % 4294967296) ((ky + rs[k].g) % 4294967296) rs[k].c rs[k].m true (.slice (some ⟨g, 0, none⟩) n cap) (((enc (rs.take k)).length : Nat) + (recLen rs[k] : Nat)) ((ky + rs[k].g) % 4294967296) rs[k].c rs[k].m true (k + 1)) 41 (0, 0)) ∧ wr.grownBy w' (some C) := by
  obtain ⟨hn, hcap, _, hg, cur, hcur⟩ := own_shape hown
  have hgC := row_ne hcur hC
  have hlen := enc_len rs k hk
  have hle := enc_length_le rs
  have hby := bytes_at k hk hown
  refine cur_some C id key cnt mx ok _ _ _ rcnt rmx rok k (by omega) _ _ _ _ wr hC ?_
  by_cases hs : isShort rs[k] = true
  · have e : recLen rs[k] = 3 := by unfold recLen; rw [if_pos hs]
    rw [e] at hlen ⊢
    have eb : recBytes rs[k] = shortBytes rs[k] := by unfold recBytes; rw [if_pos hs]
    rw [eb] at hby
    exact next_short C g _ n cap rs[k] hs id key cnt mx ok ky rcnt rmx rok k wr hkey hC hgC hg (by omega) (by omega) (by omega) hby
  · have e : recLen rs[k] = 13 := by unfold recLen; rw [if_neg hs]
    rw [e] at hlen ⊢
    have eb : recBytes rs[k] = longBytes rs[k] := by unfold recBytes; rw [if_neg hs]
    rw [eb] at hby
    exact next_long C g _ n cap rs[k] (hok _ (List.getElem_mem hk)) id key cnt mx ok ky rcnt rmx rok k wr hkey hC hgC hg (by omega) (by omega) (by omega) hby

theorem end_cur (w wr : World) (g n cap C ky : Nat) (rs : List Rec) (h1024 : rs.length ≤ 1024)
    (id key cnt mx : Int) (ok : Bool) (rcnt rmx : Int) (rok : Bool) (pos : Int)
    (hC : wr.heap[C]? = some (.cells (curA id key cnt mx ok (.slice (some ⟨g, 0, none⟩) n cap) n ky rcnt rmx rok pos) 41 (0, 0)))
    (hown : wr.ownsRow w.heap.size 5 1 (.slice (some ⟨g, 0, none⟩) n cap) (enc rs).length (bytesV (enc rs))) :
    Calls Ybad.prog 7 #[.pointer (some ⟨C, 0, none⟩)] wr fun e w' => e = .returned (.tuple #[]) ∧
      w'.heap[C]? = some (.cells (curA id key cnt mx false (.slice (some ⟨g, 0, none⟩) n cap) n ky rcnt rmx false pos) 41 (0, 0)) ∧ wr.grownBy w' (some C) := by
  obtain ⟨hn, hcap, _, hg, cur, hcur⟩ := own_shape hown
  have hle := enc_length_le rs
  refine cur_none C id key cnt mx ok _ _ _ rcnt rmx rok pos wr hC ?_
  exact next_none C g n cap id key cnt mx ok ky rcnt rmx rok pos wr hC (by omega) (by omega)

theorem enc_take_len (rs : List Rec) (k : Nat) (h : k < rs.length) : (enc (rs.take (k + 1))).length = (enc (rs.take k)).length + recLen rs[k] := by
  rw [enc_take_succ rs k h, List.length_append, recBytes_length]

theorem at_step {w w2 : World} {C k ky : Nat} {bv : Value} {rs : List Rec} (hk : k < rs.length) {id key cnt mx : Int} {ok : Bool} {rcnt rmx : Int} {rok : Bool}
    (hC2 : w2.heap[C]? = some (.cells (curA id key cnt mx ok bv (((enc (rs.take k)).length : Nat) + (recLen rs[k] : Nat)) ((ky + rs[k].g) % 4294967296) rcnt rmx rok (k + 1)) 41 (0, 0)))
    (hown : w2.ownsRow w.heap.size 5 1 bv (enc rs).length (bytesV (enc rs))) (hb : Below w.heap.size w w2) :
    AtRound w C bv rs (k + 1) ((ky + rs[k].g) % 4294967296) w2 := by
  refine ⟨id, key, cnt, mx, ok, rcnt, rmx, rok, ?_, hown, hb⟩
  have e1 : (((ky + rs[k].g) % 4294967296 : Nat) : Int) = ((ky : Int) + rs[k].g) % 4294967296 := by omega
  have e2 : (((enc (rs.take k)).length + recLen rs[k] : Nat) : Int) = ((enc (rs.take k)).length : Int) + (recLen rs[k] : Int) := by omega
  have e3 : ((k + 1 : Nat) : Int) = (k : Int) + 1 := by omega
  rw [enc_take_len rs k hk, e1, e2, e3]
  exact hC2

end Go.Proofs.YbulkbgkkDoor
