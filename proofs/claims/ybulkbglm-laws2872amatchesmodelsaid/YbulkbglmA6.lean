/-
  LawS2872AMatchesModel: orgsOf.
-/
import Derived.Test.YbulkbglmA5
import Derived.Test.YbulkbglmA1
import Derived.Deep.LoopGhost
import Derived.Deep.DeepCutAuto
import Derived.Deep.RegionWith
namespace Go.Proofs.Ybulkbglm
open Go Go.RowKit Go.Maps Go.WideMaps
set_option linter.unusedSimpArgs false
set_option linter.unusedVariables false

theorem at15n (S o rb n cap q : Nat) (w : World) (hc : w.cell? ⟨S, o + 2, none⟩ = some (.slice (some ⟨rb, 0, none⟩) n cap)) (h1 : q < n) (hn : n ≤ 4096) :
    Calls Yba.prog 15 #[.pointer (some ⟨S, o, none⟩), .int .i32 (q : Int)] w fun e w' => e = .returned (.pointer (some ⟨rb, q * 6, none⟩)) ∧ w' = w := by
  go_enter Yba.func15, Yba.ntmps15
  go_wp2
  go_ret
  exact ⟨by simp, rfl⟩

theorem id14n (S o g n cap q : Nat) (s : ByteArray) (w : World) (hc : w.cell? ⟨S, o + 1, none⟩ = some (.slice (some ⟨g, 0, none⟩) n cap)) (h1 : q < n) (hn : n ≤ 4096) (hs : w.cell? ⟨g, q, none⟩ = some (.string s)) :
    Calls Yba.prog 14 #[.pointer (some ⟨S, o, none⟩), .int .i32 (q : Int)] w fun e w' => e = .returned (.string s) ∧ w' = w := by
  go_enter Yba.func14, Yba.ntmps14
  go_wp2
  go_ret
  exact ⟨rfl, rfl⟩

theorem Ch.cell {a b : World} {X : Nat → Prop} (h : Ch a b X) {p : Addr} {v : Value} (hp : a.cell? p = some v) (hn : ¬ X p.block) : b.cell? p = some v := by
  have hlt : p.block < a.heap.size := by
    apply Nat.lt_of_not_le
    intro hle
    unfold World.cell? at hp
    have : a.heap[p.block]? = none := by rw [Array.getElem?_eq_none_iff]; exact hle
    simp [this] at hp
  have hb := h.block p.block hlt hn
  unfold World.cell? at hp ⊢
  rw [hb]
  exact hp

/-- a host's record -/
def hC1 (o : Nat) : List Value := [.int .i32 (o : Int), .string ⟨#[]⟩, .int .i32 0, .int .u8 0, .map none, .map none]
def hC (hs : List Nat) : List Value := hs.flatMap hC1
theorem hC_snoc (hs : List Nat) (o : Nat) : hC (hs ++ [o]) = hC hs ++ hC1 o := by simp [hC]
theorem hC_length (hs : List Nat) : (hC hs).length = hs.length * 6 := by
  induction hs with
  | nil => rfl
  | cons o hs ih => simp [hC, hC1] at ih ⊢; omega
theorem hC_get {hs : List Nat} {t o : Nat} (h : hs[t]? = some o) : (hC hs)[t * 6]? = some (.int .i32 (o : Int)) := by
  induction hs generalizing t with
  | nil => simp at h
  | cons p hs ih =>
    cases t with
    | zero => simp at h; subst h; rfl
    | succ t =>
      have h' : hs[t]? = some o := by simpa using h
      have e : hC (p :: hs) = hC1 p ++ hC hs := rfl
      rw [e, show (t + 1) * 6 = 6 + t * 6 by omega, List.getElem?_append_right (by simp [hC1])]
      simpa [hC1] using ih h'

theorem zero56 (w : World) : (zeroValue 56).run Yba.prog w = .ok (.slice none 0 0) w := by kernel_rfl
theorem plain_bool (b : Bool) : plainElem (H := Unit) Yba.prog 4 (.bool b) = some (.lit (.bool b), []) := by
  simp [plainElem, Yba.underlying4]

theorem sortB_length (ss : List (List UInt8)) : (sortB ss).length = ss.length := by unfold sortB; exact List.length_mergeSort ss

/-- the domains of a group's hosts -/
def orgsG (ds : List (List UInt8)) (hs : List Nat) (l : List Nat) : List (List UInt8) := l.map (fun h => ds.getD (hs.getD h 0) [])

set_option maxHeartbeats 16000000 in
set_option maxRecDepth 100000 in
theorem orgsOf6 {N : Nat} {V : Nat → Value} {L : Nat → Nat} {C : Nat → List Value} {ur : Value} {DO DU : DataW Unit} {G : Nat → List Nat} {F : Nat → Value} {c : Nat} {w : World} {ds us : List (List UInt8)} {hs : List Nat} {go co gh ch : Nat}
    (h : Q N V L C ur DO DU G F c w) (v0 : V 0 = .slice (some ⟨go, 0, none⟩) ds.length co) (c0 : C 0 = ds.map encStr) (v3 : V 3 = .slice (some ⟨gh, 0, none⟩) hs.length ch) (c3 : C 3 = hC hs)
    (hN : Num DU us) (hds : ∀ x ∈ ds, x.length ≤ maxLen) (hG : ∀ u, ∀ x ∈ G u, x < hs.length) (hH : ∀ o ∈ hs, o < ds.length) (nd : ds.length ≤ 256) (nh : hs.length ≤ 256) (nu : us.length ≤ 256) (nG : ∀ u, (G u).length ≤ 1024)
    (s : ByteArray) (hs' : s.size ≤ maxLen) :
    Calls Yba.prog 6 #[.pointer (some ⟨N + 20, 0, none⟩), .string s] w fun e w' => ∃ g cap, e = .returned (.slice (some ⟨g, 0, none⟩) (su (if s.data.toList ∈ us then orgsG ds hs (G (ix s.data.toList us)) else [])).length cap) ∧
      w'.ownsRow 0 9 1 (.slice (some ⟨g, 0, none⟩) (su (if s.data.toList ∈ us then orgsG ds hs (G (ix s.data.toList us)) else [])).length cap) (su (if s.data.toList ∈ us then orgsG ds hs (G (ix s.data.toList us)) else [])).length ((su (if s.data.toList ∈ us then orgsG ds hs (G (ix s.data.toList us)) else [])).map encStr) ∧
      w.heap.size ≤ g ∧ Below w.heap.size w w' := by
  have hmm := @run_makeMap Yba.prog
  have h1 := h.alloc (.map #[] 0)
  have hm1 : (w.alloc (.map #[] 0)).ownsMap (H := Unit) Yba.prog 9 (plainElem Yba.prog 4) w.heap.size 0 (.map []) := World.ownsMap_made w _ _ _
  have hst := h1.st
  have k6 : (w.alloc (.map #[] 0)).cell? ⟨N + 20, 6, none⟩ = some (.map (some (N + 9))) := cell_block hst rfl
  have k13 : (w.alloc (.map #[] 0)).cell? ⟨N + 20, 13, none⟩ = some (.map (some (N + 17))) := cell_block hst rfl
  have HN13 := hid (num13 (N + 20) 6 (N + 9) c DU s (w.alloc (.map #[] 0)) hs' k6 h1.mU)
  have lt1 : N + 20 < w.heap.size := lt_block h.st
  -- the end, in one lemma
  have HEnd : Hid (∀ {wr : World} {nn : Nat} {D : DataW Unit} (xs : List (List UInt8)), wr.ownsMap (H := Unit) Yba.prog 9 (plainElem Yba.prog 4) w.heap.size nn D → nn ≤ 1024 → (∀ x, Maps.has D (.string x) = true ↔ x ∈ xs) → Below w.heap.size w wr → w.heap.size ≤ wr.heap.size →
      Calls Yba.prog 16 #[.map (some w.heap.size)] wr fun e w' => ∃ g cap, e = .returned (.slice (some ⟨g, 0, none⟩) (su xs).length cap) ∧ w'.ownsRow 0 9 1 (.slice (some ⟨g, 0, none⟩) (su xs).length cap) (su xs).length ((su xs).map encStr) ∧ w.heap.size ≤ g ∧ Below w.heap.size w w') := by
    intro wr nn D xs hown hnn hD hbel hsz
    refine (sortedSet16 w.heap.size nn D wr hown (by have := hown.size_le; omega)).mono ?_
    rintro e w' ⟨g, cap, ss, rfl, hp, hrow, hg, hb⟩
    have es : sortB ss = su xs := sorted_is hown law9 Yba.underlying9 hD hp
    have el : ss.length = (su xs).length := by rw [← es]; exact (sortB_length ss).symm
    rw [es, el] at hrow
    exact ⟨g, cap, by rw [el], hrow, by omega, hbel.trans (hb.mono hsz)⟩
  by_cases hin : s.data.toList ∈ us
  · rw [if_pos hin]
    obtain ⟨u, hu⟩ : ∃ u, u = ix s.data.toList us := ⟨_, rfl⟩
    have hul : u < us.length := by rw [hu]; exact ix_lt hin
    have hat := hN.at_ _ hin
    rw [← hu] at hat ⊢
    have hhas : Maps.has DU (.string s.data.toList) = true := by rw [hN.has]; simpa using hin
    rw [hhas] at HN13
    have HN' : Hid (Calls Yba.prog 13 #[.pointer (some ⟨N + 20, 6, none⟩), .string s] (w.alloc (.map #[] 0)) fun e w' => e = .returned (.tuple #[.int .i32 (u : Int), .bool true]) ∧ w' = w.alloc (.map #[] 0)) := by
      refine HN13.out.mono ?_
      rintro e w' ⟨cc, rfl, hcc, rfl⟩
      rw [hat] at hcc
      injection hcc with hcc
      injection hcc with _ hcc
      exact ⟨by rw [← hcc], rfl⟩
    have huw : (Lit.int .i32 (u : Int)).wf = true := WalkArith.wf_i32 (by omega)
    have hlk := h1.look u huw (zero56 _)
    obtain ⟨fa, fc, hF⟩ : ∃ fa fc, F u = .slice fa (G u).length fc := by
      rcases (h.gr u).2 with ⟨e1, e2⟩ | ⟨g, cap, cur, e1, -⟩
      · exact ⟨none, 0, by rw [e1, e2]⟩
      · exact ⟨_, cap, e1⟩
    rw [hF] at hlk
    have HQ := hid h1
    have HF := hid hF
    have HL := hid (nG u)
    have nGu := nG u
    have H0 := hid (show ∃ nn D, (w.alloc (.map #[] 0)).ownsMap (H := Unit) Yba.prog 9 (plainElem Yba.prog 4) w.heap.size nn D ∧ nn ≤ 0 ∧ (∀ x, Maps.has D (.string x) = true ↔ x ∈ (orgsG ds hs (G u)).take 0) ∧ IsMap D ∧ Ch (w.alloc (.map #[] 0)) (w.alloc (.map #[] 0)) (· = w.heap.size) from ⟨0, _, hm1, Nat.le_refl _, fun x => by simp [Maps.has], isMap_empty, Ch.refl _ _⟩)
    have hui : (u : Int) < 256 := by omega
    have Hh := hid h
    have hszW : w.heap.size ≤ (w.alloc (.map #[] 0)).heap.size := by simp
    have HbW : Hid (Below w.heap.size w (w.alloc (.map #[] 0))) := (Below.refl _ w).alloc (Nat.le_refl _) _
    clear h h1 hst hm1 hhas HN13 hF hin hul hu huw
    generalize hW1 : w.alloc (.map #[] 0) = W1 at *
    go_enter Yba.func6, Yba.ntmps6
    go_upto_region 2 with fail
    clear hW1
    go_wp2_with (go_at_call 13; refine HN'.out.mono ?_; rintro e w' ⟨rfl, hw'⟩; rw [hw']; clear hw' w')
    go_loopg [27] (G u).length (fun k s27 wr => ∃ i : Nat, i + k = (G u).length ∧ s27 = .int .i64 i ∧ ∃ nn D, wr.ownsMap (H := Unit) Yba.prog 9 (plainElem Yba.prog 4) w.heap.size nn D ∧ nn ≤ i ∧ (∀ x, Maps.has D (.string x) = true ↔ x ∈ (orgsG ds hs (G u)).take i) ∧ IsMap D ∧ Ch W1 wr (· = w.heap.size))
    case atStart => exact ⟨0, by omega, rfl, H0.out⟩
    case round =>
      obtain ⟨i, hik, rfl, nn, D, hown, hnn, hD, hI, hC⟩ := hrel
      clear H0
      by_cases hlt : i < (G u).length
      · obtain ⟨x, hx⟩ : ∃ x, (G u)[i]? = some x := ⟨(G u)[i], List.getElem?_eq_getElem hlt⟩
        have hxl : x < hs.length := hG u x (List.mem_of_getElem? hx)
        obtain ⟨o, ho⟩ : ∃ o, hs[x]? = some o := ⟨hs[x], List.getElem?_eq_getElem hxl⟩
        have hol : o < ds.length := hH o (List.mem_of_getElem? ho)
        obtain ⟨d, hd⟩ : ∃ d, ds[o]? = some d := ⟨ds[o], List.getElem?_eq_getElem hol⟩
        have hdl : d.length ≤ maxLen := hds d (List.mem_of_getElem? hd)
        obtain ⟨g, hfa⟩ : ∃ g, fa = some ⟨g, 0, none⟩ := by
          rcases (HQ.out.gr u).2 with ⟨e1, e2⟩ | ⟨g, cap, cur, e1, -⟩
          · omega
          · rw [HF.out] at e1
            injection e1 with e1
            exact ⟨g, e1⟩
        subst hfa
        have gb : (F u).ownBlock = some g := by rw [HF.out]; rfl
        have gne : g ≠ w.heap.size := by have := (Hh.out.grpNe gb).2.2.2.2.2; omega
        have b0 : (V 0).ownBlock = some go := by rw [v0]; rfl
        have b3 : (V 3).ownBlock = some gh := by rw [v3]; rfl
        have n0 : go ≠ w.heap.size := by have := (Hh.out.rowNe (by omega) b0).2.2.2.2.2; omega
        have n3 : gh ≠ w.heap.size := by have := (Hh.out.rowNe (by omega) b3).2.2.2.2.2; omega
        have a1 : wr.cell? ⟨g, i, none⟩ = some (.int .i32 (x : Int)) := by
          have := (HQ.out.gr u).cells gb i _ (by unfold gC; rw [List.getElem?_map, hx]; rfl)
          rw [add0] at this
          exact hC.cell this gne
        have a2 : wr.cell? ⟨gh, x * 6, none⟩ = some (.int .i32 (o : Int)) := by
          have := (HQ.out.row 3 (by omega)).cells b3 (x * 6) _ (by rw [c3]; exact hC_get ho)
          rw [add0] at this
          exact hC.cell this n3
        have a3 : wr.cell? ⟨go, o, none⟩ = some (.string ⟨d.toArray⟩) := by
          have := (HQ.out.row 0 (by omega)).cells b0 o _ (by rw [c0, List.getElem?_map, hd]; rfl)
          rw [add0] at this
          exact hC.cell this n0
        have hst2 := hC.at HQ.out.st (by omega)
        have a4 : wr.cell? ⟨N + 20, 1, none⟩ = some (.slice (some ⟨go, 0, none⟩) ds.length co) := by rw [← v0]; exact cell_block hst2 rfl
        have a5 : wr.cell? ⟨N + 20, 5, none⟩ = some (.slice (some ⟨gh, 0, none⟩) hs.length ch) := by rw [← v3]; exact cell_block hst2 rfl
        have HA := hid (at15n (N + 20) 3 gh hs.length ch x wr.drew a5 hxl (by omega))
        have HI := hid (id14n (N + 20) 0 go ds.length co o ⟨d.toArray⟩ wr.drew a4 hol (by omega) a3)
        obtain ⟨w2, hrun, hown2, hg2⟩ := (hown.drew).update law9 Yba.underlying86 (by unfold maxLen; omega) (keyOf_string_mk Yba.underlying9 (s := ⟨d.toArray⟩) (by show d.toArray.size ≤ _; simpa using hdl)) (plain_bool true)
        have FR := hid (show ∃ nn D, w2.ownsMap (H := Unit) Yba.prog 9 (plainElem Yba.prog 4) w.heap.size nn D ∧ nn ≤ i + 1 ∧ (∀ y, Maps.has D (.string y) = true ↔ y ∈ (orgsG ds hs (G u)).take (i + 1)) ∧ IsMap D ∧ Ch W1 w2 (· = w.heap.size) from by
          refine ⟨nn + 1, _, hown2, by omega, fun y => ?_, hI.put _ _, (hC.trans (Ch.of_gb (gb_undrew hg2))).mono (fun q hq => hq.elim id id)⟩
          have e1 : (orgsG ds hs (G u))[i]? = some d := by
            unfold orgsG
            rw [List.getElem?_map, hx]
            simp [List.getD, ho, hd]
          rw [List.take_add_one, e1]
          by_cases e : y = d
          · subst e
            have : Maps.has (D.put (.string y) (.lit (.bool true))) (.string y) = true := has_put_same hI (by first | trivial | simp [WideAt.IsKeyLit]) _
            simpa using this
          · have : Maps.has (D.put (.string d) (.lit (.bool true))) (.string y) = Maps.has D (.string y) := has_put_other (by intro hh; injection hh with hh; exact e hh) _
            have h2 := hD y
            simp only [List.mem_append, Option.toList_some, List.mem_singleton, e, or_false]
            rw [← h2, ← this])
        have hxi : (x : Int) < 256 := by omega
        clear hown hD hI hC hown2 hg2 hst2 hnn hx ho hd a4 a5 a3
        go_upto_region 7 with fail
        go_region_with (first | (go_at_call 15; refine HA.out.mono ?_; rintro e w' ⟨rfl, rfl⟩) | (go_at_call 14; refine HI.out.mono ?_; rintro e w' ⟨rfl, rfl⟩))
        all_goals (
          go_wp2
          go_roundg (gk - 1)
          case measure => omega
          case rel => exact ⟨i + 1, by omega, by go_num, FR.out⟩)
      · obtain rfl : i = (G u).length := by omega
        have hl : (orgsG ds hs (G u)).take (G u).length = orgsG ds hs (G u) := List.take_of_length_le (by simp [orgsG])
        rw [hl] at hD
        have HE := hid (HEnd.out _ hown (by omega) hD (Ch.below HbW.out hC hszW (fun q hq => by omega)) (Nat.le_trans hszW hC.size))
        clear hown hD hI hC hl
        go_wp2_with (go_at_call 16; refine HE.out.mono ?_; rintro e w' ⟨g, cap, rfl, hrow, hg, hb⟩)
        go_ret
        exact ⟨g, cap, rfl, hrow, hg, hb⟩
  · rw [if_neg hin]
    have hb0 : Below w.heap.size w (w.alloc (.map #[] 0)) := (Below.refl _ w).alloc (Nat.le_refl _) _
    have HE := hid (HEnd.out [] hm1 (by omega) (fun x => by simp [Maps.has]) hb0 (by simp))
    have hhas : Maps.has DU (.string s.data.toList) = false := by rw [hN.has]; simpa using hin
    rw [hhas] at HN13
    clear h h1 hst hm1 hN hb0
    go_enter Yba.func6, Yba.ntmps6
    go_wp2_with (first | (go_at_call 13; refine HN13.out.mono ?_; rintro e w' ⟨cc, rfl, -, rfl⟩) | (go_at_call 16; refine HE.out.mono ?_; rintro e w' ⟨g, cap, rfl, hrow, hg, hb⟩))
    go_ret
    exact ⟨g, cap, rfl, hrow, hg, hb⟩

end Go.Proofs.Ybulkbglm
