/-
  zzs2870aencode (5): it hands back a slice of its own that holds the records' bytes.
-/
import Derived.Test.YbulkbgkkDoorLeaf
import Derived.Laws.BitsAllLaws
namespace Go.Proofs.YbulkbgkkDoor
open Go.RowKit
set_option linter.unusedSimpArgs false

/-- The records lie behind the slice's address. -/
def RecsAt (w : World) (b off : Nat) (rs : List Rec) : Prop :=
  ∀ i (h : i < rs.length), w.cell? ⟨b, off + i * 4, none⟩ = some (.int .u32 rs[i].g) ∧ w.cell? ⟨b, off + i * 4 + 1, none⟩ = some (.int .u32 rs[i].c) ∧
    w.cell? ⟨b, off + i * 4 + 2, none⟩ = some (.int .u32 rs[i].m) ∧ w.cell? ⟨b, off + i * 4 + 3, none⟩ = some (.bool rs[i].l)

theorem or_short (r : Rec) (hg : r.g < 127) (hc : r.c < 128) (hm : r.m < 1024) : bits .or .u32 (bits .or .u32 (r.g : Int) ((r.c : Int) * 128)) ((r.m : Int) * 16384) = (vOf r : Int) := by
  have e1 : (r.c : Int) * 128 = ((r.c * 128 : Nat) : Int) := by omega
  have e2 : (r.m : Int) * 16384 = ((r.m * 16384 : Nat) : Int) := by omega
  rw [e1, e2, u32_or_nat _ _ (by omega) (by omega), Nat.or_comm, nat_join 7 _ _ (by omega) (by omega), u32_or_nat _ _ (by omega) (by omega), Nat.or_comm, nat_join 14 _ _ (by omega) (by omega)]
  unfold vOf; omega

theorem vOf_lt (r : Rec) (hg : r.g < 127) (hc : r.c < 128) (hm : r.m < 1024) : vOf r < 16777216 := by unfold vOf; omega

/-- What the round's append leaves is the relation at k + 1. -/
theorem enc_step {w wr w2 : World} {rs : List Rec} {k : Nat} {v' : Value} (h : k < rs.length) (n : Nat) (news : List Int) (hn : news = recBytes rs[k]) (hnl : n = news.length)
    (hown : w2.ownsRow w.heap.size 5 1 v' ((enc (rs.take k)).length + n) (bytesV (enc (rs.take k)) ++ bytesV news)) (hb : Below w.heap.size w wr) (hb2 : Below w.heap.size wr w2) :
    w2.ownsRow w.heap.size 5 1 v' (enc (rs.take (k + 1))).length (bytesV (enc (rs.take (k + 1)))) ∧ Below w.heap.size w w2 := by
  subst hnl
  subst hn
  refine ⟨?_, hb.trans hb2⟩
  rw [enc_take_succ rs k h, List.length_append, bytesV_append]
  exact hown

theorem enc_take_le (rs : List Rec) (k : Nat) (hl : rs.length ≤ 1024) : (enc (rs.take k)).length ≤ 13312 := by
  have := enc_length_le (rs.take k)
  have h2 : (rs.take k).length ≤ rs.length := by rw [List.length_take]; omega
  omega

set_option maxHeartbeats 1000000 in
set_option maxRecDepth 100000 in
theorem enc_some (b off len cap : Nat) (rs : List Rec) (w : World) (hlen : rs.length = len) (h1024 : len ≤ 1024) (hok : ∀ r ∈ rs, r.ok) (hb : b < w.heap.size) (hc : RecsAt w b off rs) :
    Calls Ybad.prog 5 #[.slice (some ⟨b, off, none⟩) len cap] w fun e w' => ∃ g cp, e = .returned (.slice (some ⟨g, 0, none⟩) (enc rs).length cp) ∧ w'.ownsRow w.heap.size 5 1 (.slice (some ⟨g, 0, none⟩) (enc rs).length cp) (enc rs).length (bytesV (enc rs)) ∧ Below w.heap.size w w' := by
  obtain ⟨i0, hi, hz0, hz1, hz2⟩ := info_parts Ybad.info5
  go_enter Ybad.func5, Ybad.ntmps5
  go_wp2_with (at_make; refine wpList_make_own _ rfl _ _ 23 rfl w.heap.size 5 i0 (.int .u8 0) 1 Ybad.underlying23 hi hz0 hz1 _ _ _ (13 * len) rfl rfl (by omega) ?b2 ?b3 (Nat.le_refl _) ?_)
  case b2 => rw [hz2]; omega
  case b3 => unfold maxLen; omega
  intro w0 hown0 hgrow0
  go_wp2
  go_loopw [3, 4] (fun v i wr => ∃ (k : Nat), k ≤ len ∧ i = .int .i64 k ∧ wr.ownsRow w.heap.size 5 1 v (enc (rs.take k)).length (bytesV (enc (rs.take k))) ∧ Below w.heap.size w wr ∧ ¬ v = .slice none 0 0)
    (fun _ i _ => len - (intOf i).toNat)
  case atStart => exact ⟨0, Nat.zero_le _, rfl, hown0, (Below.refl _ _).grown hgrow0 (Nat.le_refl _) (fun k h => by cases h), by simp⟩
  case round =>
    obtain ⟨k, hk, rfl, hown, hnx, hnil⟩ := hrel
    by_cases hlt : k < len
    · have hkr : k < rs.length := by omega
      obtain ⟨c0, c1, c2, c3⟩ := hc k hkr
      have d0 := (hnx.cell (p := ⟨b, off + k * 4, none⟩) hb).trans c0
      have d1 := (hnx.cell (p := ⟨b, off + k * 4 + 1, none⟩) hb).trans c1
      have d2 := (hnx.cell (p := ⟨b, off + k * 4 + 2, none⟩) hb).trans c2
      have d3 := (hnx.cell (p := ⟨b, off + k * 4 + 3, none⟩) hb).trans c3
      clear c0 c1 c2 c3
      go_wp2_with fail
      refine (short_any rs[k] _).mono ?_
      rintro e w' ⟨rfl, rfl⟩
      by_cases hs : isShort rs[k] = true
      · rw [hs]
        obtain ⟨hl, hg, hcc, hm⟩ := (isShort_iff _).1 hs
        go_wp2_with (at_builtin; refine wpList_append_own _ rfl (.tmp 33) (.tmp 42) 23 rfl w.heap.size 5 i0 (.int .u8 0) 1 1 Ybad.underlying23 hi hz0 hz1 hz2 rfl (by decide) _ _ _ rfl (((hown.alloc _).alloc _).alloc _) _ 3 3 (bytesV (shortBytes rs[k])) rfl rfl ?c1 ?c2 ?c3 ?c4 ?c5 ?_)
        case c1 =>
          rw [or_short _ hg hcc hm]
          have hv := vOf_lt _ hg hcc hm
          have e3 : (vOf rs[k] : Int) / 65536 % 256 = (vOf rs[k] : Int) / 65536 := by omega
          rw [e3]
          exact news_at _ _ _ _ _ (by simp) rfl
        case c2 => intro u hu; simp [bytesV, shortBytes] at hu; rcases hu with rfl | rfl | rfl <;> rfl
        case c3 => have := enc_take_le rs k (by omega); unfold maxLen; omega
        case c4 => have := enc_take_le rs k (by omega); omega
        case c5 => have := hnx.size; simp; omega
        intro v' w2 hown' hgrow hnil'
        have hb2 : Below w.heap.size wr w2 := (((((Below.refl _ wr).alloc hnx.size _).alloc (by have := hnx.size; simp; omega) _).alloc (by have := hnx.size; simp; omega) _).grown hgrow (by have := hnx.size; simp; omega) (fun j hj => (hown.lt j hj).1))
        obtain ⟨R1, R2⟩ := enc_step hkr 3 (shortBytes rs[k]) (by unfold recBytes; rw [if_pos hs]) rfl hown' hnx hb2
        clear hown' hgrow hb2 hown
        go_wp2
        go_roundw
        case rel => exact ⟨k + 1, by omega, by go_num, R1, R2, by simpa using hnil'⟩
        case measure => simp [intOf]; omega
      · have hs' : isShort rs[k] = false := by simpa using hs
        rw [hs']
        obtain ⟨ok1, ok2, ok3⟩ := hok rs[k] (List.getElem_mem hkr)
        go_wp2_with (at_builtin; refine wpList_append_own _ rfl (.tmp 44) (.tmp 45) 23 rfl w.heap.size 5 i0 (.int .u8 0) 1 1 Ybad.underlying23 hi hz0 hz1 hz2 rfl (by decide) _ _ _ rfl (((hown.alloc _).alloc _).alloc _) _ 1 1 (bytesV [255]) rfl rfl ?k1 ?k2 ?k3 ?k4 ?k5 ?_)
        case k1 =>
          exact news_at _ _ _ _ _ (by simp) rfl
        case k2 => intro u hu; simp [bytesV] at hu; subst hu; rfl
        case k3 => have := enc_take_le rs k (by omega); unfold maxLen; omega
        case k4 => have := enc_take_le rs k (by omega); omega
        case k5 => have := hnx.size; simp; omega
        intro v1 w1 hown1 hgrow1 hnil1
        have G : (((wr.alloc (.cells #[.int .u32 rs[k].g, .int .u32 rs[k].c, .int .u32 rs[k].m, .bool rs[k].l] 43)).alloc (.cells #[.int .u32 rs[k].g, .int .u32 rs[k].c, .int .u32 rs[k].m, .bool rs[k].l] 43)).alloc (.cells #[.int .u8 255] 5)).heap[wr.heap.size]? = some (.cells #[.int .u32 rs[k].g, .int .u32 rs[k].c, .int .u32 rs[k].m, .bool rs[k].l] 43 (0, 0)) := by
          rw [Below.heap_alloc _ _ _ (by simp; omega), Below.heap_alloc _ _ _ (by simp)]
          exact heap_alloc_new wr _
        have G1 := block_beside (by decide) (((hown.alloc _).alloc _).alloc _) G hgrow1
        have hb1 : Below w.heap.size wr w1 := (((((Below.refl _ wr).alloc hnx.size _).alloc (by have := hnx.size; simp; omega) _).alloc (by have := hnx.size; simp; omega) _).grown hgrow1 (by have := hnx.size; simp; omega) (fun j hj => (hown.lt j hj).1))
        have sz0 := hnx.size
        have sz1 := hb1.size
        have hle := enc_take_le rs k (by omega)
        clear G hgrow1
        have g0 := cell_block (i := 0) G1 rfl
        go_wp2_with fail
        refine (app32_any w.heap.size _ _ ok1 _ _ _ hown1 (by omega) (by omega)).mono ?_
        rintro e w2 ⟨v2, rfl, hown2, hgrow2, hnil2⟩
        have G2 := block_beside (by decide) hown1 G1 hgrow2
        have hb2 := hb1.grown hgrow2 (by omega) (fun j hj => (hown1.lt j hj).1)
        have sz2 := hb2.size
        clear g0 G1 hb1 hgrow2 hown1 hnil1
        have g1 := cell_block (i := 1) G2 rfl
        go_wp2_with fail
        refine (app32_any w.heap.size _ _ ok2 _ _ _ hown2 (by omega) (by omega)).mono ?_
        rintro e w3 ⟨v3, rfl, hown3, hgrow3, hnil3⟩
        have G3 := block_beside (by decide) hown2 G2 hgrow3
        have hb3 := hb2.grown hgrow3 (by omega) (fun j hj => (hown2.lt j hj).1)
        have sz3 := hb3.size
        clear g1 G2 hb2 hgrow3 hown2 hnil2
        have g2 := cell_block (i := 2) G3 rfl
        go_wp2_with fail
        refine (app32_any w.heap.size _ _ ok3 _ _ _ hown3 (by omega) (by omega)).mono ?_
        rintro e w4 ⟨v4, rfl, hown4, hgrow4, hnil4⟩
        have hb4 := hb3.grown hgrow4 (by omega) (fun j hj => (hown3.lt j hj).1)
        obtain ⟨R1, R2⟩ := enc_step hkr 13 (longBytes rs[k]) (by unfold recBytes; rw [if_neg hs]) rfl (by have h := hown4; simp only [List.append_assoc, ← bytesV_append, Nat.add_assoc] at h ⊢; exact h) hnx hb4
        clear hown4 hgrow4 hb4 hb3 hown3 G3 g2 hown
        go_wp2
        go_roundw
        case rel => exact ⟨k + 1, by omega, by go_num, R1, R2, by simpa using hnil4⟩
        case measure => simp [intOf]; omega
    · go_wp2
      have hk' : k = len := by omega
      subst hk'
      rw [List.take_of_length_le (by omega)] at hown
      obtain ⟨g, cp, hv⟩ : ∃ g cp, u3 = .slice (some ⟨g, 0, none⟩) (enc rs).length cp := by
        rcases hown.2 with ⟨h, _⟩ | ⟨g, cp, _, h, _⟩
        · exact absurd h hnil
        · exact ⟨g, cp, h⟩
      subst hv
      go_ret
      exact ⟨g, cp, rfl, hown, hnx⟩

end Go.Proofs.YbulkbgkkDoor
