/-
  LawS2872CModel (4): the walk.
-/
import Derived.Test.YbulkbglmC5
import Derived.BigQuiet
import Derived.Deep.QuietTactic
import Derived.Deep.LoopGhost
import Derived.Deep.DeepCutAuto
import Derived.Deep.RegionLaw
namespace Go.Proofs.Ybulkbglm
open Go Go.RowKit Go.Maps Go.WideMaps
set_option linter.unusedSimpArgs false
set_option linter.unusedVariables false

set_option maxHeartbeats 40000000 in
set_option maxRecDepth 100000 in
theorem model_walk (gA : Array Value) (a0 a1 a2 : Nat) (P : Nat → Nat → Bool) (R T : Nat → Nat → Int) (q0 q1 q2 : Nat) (g : Grid gA a0 a1 a2 P R T q0 q1 q2) (w : World) :
    Calls Yba.prog 4 #[.agg gA] w fun e w' => e = .returned (.bool true) ∧ Below w.heap.size w w' := by
  have n0 := g.n0
  have n1 := g.n1
  have n2 := g.n2
  have b0 := g.b0
  have b1 := g.b1
  have b2 := g.b2
  obtain ⟨nh, e0, e0', hnh⟩ : ∃ nh : Nat, (a0 : Int) % 4 ≤ (nh : Int) ∧ (nh : Int) ≤ (a0 : Int) % 4 ∧ nh < 4 := ⟨a0 % 4, by omega, by omega, by omega⟩
  obtain ⟨nu, e1, e1', hnu⟩ : ∃ nu : Nat, (a1 : Int) % 4 ≤ (nu : Int) ∧ (nu : Int) ≤ (a1 : Int) % 4 ∧ nu < 4 := ⟨a1 % 4, by omega, by omega, by omega⟩
  obtain ⟨np, e2, e2', hnp⟩ : ∃ np : Nat, (a2 : Int) % 4 ≤ (np : Int) ∧ (np : Int) ≤ (a2 : Int) % 4 ∧ np < 4 := ⟨a2 % 4, by omega, by omega, by omega⟩
  obtain ⟨i9, hi9, hz9, hs9, hb9⟩ := info_parts Yba.info9
  obtain ⟨i64, hi64, hz64, hs64, hb64⟩ := info_parts Yba.info64
  obtain ⟨i66, hi66, hz66, hs66, hb66⟩ := info_parts Yba.info66
  obtain ⟨W, hW⟩ : ∃ W, W = ((((w.alloc (.cells gA 77)).alloc (.cells hostA 78)).alloc (.cells userA 78)).alloc (.cells permA 78)) := ⟨_, rfl⟩
  have HN := hid (newState_any ((((w.alloc (.cells gA 77)).alloc (.cells hostA 78)).alloc (.cells userA 78)).alloc (.cells permA 78)) (w.heap.size + 4) (by simp))
  rw [← hW] at HN
  have HW := hid hW
  have Hc0 := hid (fun j => grid_at w gA hostA userA permA j)
  have Hc1 := hid (fun j => host_at w gA hostA userA permA j)
  have Hc2 := hid (fun j => user_at w gA hostA userA permA j)
  have Hc3 := hid (fun j => perm_at w gA hostA userA permA j)
  rw [← hW] at Hc0 Hc1 Hc2 Hc3
  clear hW
  go_enter Yba.func4, Yba.ntmps4
  go_wp2_with fail
  refine Calls.mono (by have h := HN.out; rw [HW.out] at h; exact h) ?_
  rw [← HW.out]
  rintro e w1 ⟨rfl, m⟩
  have h1 := hid (L1_start m)
  clear m HN n0 n1 n2 b0 b1 b2
  go_wp2_with fail
  go_loopg [10] nh (fun k s10 wr => ∃ i : Nat, i + k = nh ∧ s10 = .int .i64 i ∧ ∃ hb hc rb rc xs M G, L1 W (w.heap.size + 4) i i i hb hc rb rc xs M G wr)
  case atStart => exact ⟨0, by omega, rfl, _, _, _, _, _, _, _, h1.out⟩
  case round =>
    obtain ⟨i, hik, rfl, hb, hc, rb, rc, xs, M, G, hL⟩ := hrel
    clear h1
    by_cases hlt : i < nh
    · obtain ⟨c3, c4, c5, c6, c7, c8, c9, c10, c11⟩ := st_cells hL.st
      obtain ⟨hA, hdl, hds⟩ := hostB_is (i := i) (by omega)
      have HL := hid hL
      have d1 : wr.cell? ⟨w.heap.size + 1, i, none⟩ = some (.string (hostB i)) := (hL.bel.cell (p := ⟨w.heap.size + 1, i, none⟩) (by show w.heap.size + 1 < w.heap.size + 4; omega)).trans ((Hc1.out i).trans hA)
      have f4 := frozen_block (i := 4) hL.st
      have f5 := frozen_block (i := 5) hL.st
      have hsz := hL.sz
      clear hL
      have hwf : (Lit.int .i32 (i : Int)).wf = true := WalkArith.wf_i32 (by omega)
      have hi3 : (i : Int) < 4 := by omega
      have hwr : IntKind.i32.wrap (i : Int) = i := by rw [IntKind.wrap_i32]; omega
      obtain ⟨w2, hrun, hown2, hgrow2⟩ := (HL.out.oH.drew).update (R := plainElem (H := Unit) Yba.prog 57) law9 Yba.underlying33 (by unfold maxLen; omega) (keyOf_string_mk Yba.underlying9 hds) (plainElem_int Yba.underlying57 hwf)
      rw [hdl] at hown2
      have HO := hid hown2
      have HG := hid (gb_undrew hgrow2)
      clear hown2 hgrow2
      go_upto_region 11 with fail
      go_cut [] (fun wx => L1 W (w.heap.size + 4) (i + 1) i i hb hc rb rc xs M G wx)
      case first =>
        go_region
        all_goals (go_wp2_with fail; go_meet; exact HL.out.map HO.out HG.out)
      case rest =>
      clear HL HO HG hrun c3 c4 c5 c6 c7 c8 c9 c10 c11 f4 f5 hsz d1
      have HL := hid hcut
      clear hcut
      obtain ⟨c3, c4, c5, c6, c7, c8, c9, c10, c11⟩ := st_cells HL.out.st
      have d1 : wc.cell? ⟨w.heap.size + 1, i, none⟩ = some (.string (hostB i)) := (HL.out.bel.cell (p := ⟨w.heap.size + 1, i, none⟩) (by show w.heap.size + 1 < w.heap.size + 4; omega)).trans ((Hc1.out i).trans hA)
      have HI : Hid ((wc.alloc (.cells #[.string (hostB i)] 9)).drew.ownsRow 0 9 1 (.slice (some ⟨hb, 0, none⟩) i hc) i xs) := HL.out.ids.alloc _
      have HW1 : Hid (∀ j u, ([.string (hostB i)] : List Value)[j]? = some u → (wc.alloc (.cells #[.string (hostB i)] 9)).drew.cell? ((⟨wc.heap.size, 0, none⟩ : Addr).add j) = some u) := cell_one_new _ _ _
      have HS : Hid ((wc.alloc (.cells #[.string (hostB i)] 9)).drew.heap[w.heap.size + 4 + 20]? = some (.cells (stN (w.heap.size + 4) (.slice (some ⟨hb, 0, none⟩) i hc) (.slice (some ⟨rb, 0, none⟩) i rc) (sl0 (w.heap.size + 4 + 10)) (sl0 (w.heap.size + 4 + 11)) (sl0 (w.heap.size + 4 + 14)) (sl0 (w.heap.size + 4 + 15))) 49 (0, 0))) := alloc_block HL.out.st
      have hsz := HL.out.sz
      have lt1 : w.heap.size + 4 + 20 < wc.heap.size := by omega
      have lt2 : w.heap.size + 1 < wc.heap.size := by omega
      have nS : w.heap.size + 4 + 20 ≠ hb := by
        obtain ⟨cur, h1⟩ := row_block HL.out.ids
        exact ne_block HL.out.st h1 (cells_ne (by decide))
      go_upto_region 12 with fail
      go_cut [] (fun wx => ∃ hb' hc' ys, L1 W (w.heap.size + 4) (i + 1) (i + 1) i hb' hc' rb rc ys M G wx)
      case first =>
        go_region_law (refine step_app rfl (.tmp 60) (.tmp 64) 22 rfl 9 i9 (.string ⟨#[]⟩) 1 16 Yba.underlying22 hi9 hz9 hs9 hb9 rfl (by decide) hb i hc xs (by simp [Act.eval, Act.put]) HI.out ⟨wc.heap.size, 0, none⟩ 1 1 [.string (hostB i)] (by decide) (by simp [Act.eval, Act.put]) rfl HW1.out (by intro u hu; simp at hu; subst hu; rfl) (by unfold maxLen; omega) (by omega) ?_; intro hb' hc' w2 hown2 hgrow2 hloc; have hS2 := (hgrow2.block (w.heap.size + 4 + 20) (by simp; omega) (by simpa using nS)).trans HS.out; have k4 := (st_cells hS2).2.1; have f4 := frozen_block (i := 4) hS2)
        all_goals (go_wp2_with fail; go_meet; exact ⟨hb', hc', _, HL.out.idsStep ((((Ch.refl wc (· = hb)).alloc _).drew.trans (Ch.of_gb hgrow2)).mono (fun k hk => hk.elim id id)) hown2 (by simp at hloc; omega)⟩)
      case rest =>
      clear HL HI HW1 HS hsz lt1 lt2 nS c3 c4 c5 c6 c7 c8 c9 c10 c11 d1
      obtain ⟨hb', hc', ys, hcut⟩ := hcut
      have HL := hid hcut
      clear hcut
      obtain ⟨c3, c4, c5, c6, c7, c8, c9, c10, c11⟩ := st_cells HL.out.st
      clear c3 c4 c6 c7 c8 c9 c10 c11
      obtain ⟨o64, ho64⟩ : ∃ o64, o64 = Obj.cells #[.int .i32 0, .string ⟨#[]⟩, .int .i32 0, .int .u8 0, .map (some wc.heap.size), .map (some (wc.heap.size + 1))] 64 := ⟨_, rfl⟩
      have HI : Hid ((((wc.alloc (.map #[] 0)).alloc (.map #[] 0)).alloc (.cells #[.int .i32 0, .string ⟨#[]⟩, .int .i32 0, .int .u8 0, .map (some wc.heap.size), .map (some (wc.heap.size + 1))] 64)).ownsRow 0 64 6 (.slice (some ⟨rb, 0, none⟩) i rc) i (hostCells M G i)) := ((HL.out.row.alloc _).alloc _).alloc _
      have HW1 := hid (news_at ((wc.alloc (.map #[] 0)).alloc (.map #[] 0)) #[.int .i32 0, .string ⟨#[]⟩, .int .i32 0, .int .u8 0, .map (some wc.heap.size), .map (some (wc.heap.size + 1))] 64 _ (wc.heap.size + 1 + 1) (by simp) rfl)
      have HS : Hid ((((wc.alloc (.map #[] 0)).alloc (.map #[] 0)).alloc (.cells #[.int .i32 0, .string ⟨#[]⟩, .int .i32 0, .int .u8 0, .map (some wc.heap.size), .map (some (wc.heap.size + 1))] 64)).heap[w.heap.size + 4 + 20]? = some (.cells (stN (w.heap.size + 4) (.slice (some ⟨hb', 0, none⟩) (i + 1) hc') (.slice (some ⟨rb, 0, none⟩) i rc) (sl0 (w.heap.size + 4 + 10)) (sl0 (w.heap.size + 4 + 11)) (sl0 (w.heap.size + 4 + 14)) (sl0 (w.heap.size + 4 + 15))) 49 (0, 0))) := alloc_block (alloc_block (alloc_block HL.out.st))
      have HM := hid (three_at wc (.map #[] 0) (.map #[] 0) (.cells #[.int .i32 0, .string ⟨#[]⟩, .int .i32 0, .int .u8 0, .map (some wc.heap.size), .map (some (wc.heap.size + 1))] 64))
      have hsz := HL.out.sz
      have nS : w.heap.size + 4 + 20 ≠ rb := by
        obtain ⟨cur, h1⟩ := row_block HL.out.row
        exact ne_block HL.out.st h1 (cells_ne (by decide))
      have hmm := @run_makeMap Yba.prog
      go_wp2_with (at_builtin; refine wpList_app _ rfl (.tmp 74) (.tmp 78) 34 rfl 64 i64 _ 6 48 Yba.underlying34 hi64 hz64 hs64 hb64 rfl (by decide) rb i rc (hostCells M G i) rfl HI.out ⟨wc.heap.size + 1 + 1, 0, none⟩ 1 1 _ (by decide) rfl rfl HW1.out ?o1 ?o2 ?o3 ?_)
      case o1 => exact ⟨rfl, rfl, rfl, rfl, rfl, rfl⟩
      case o2 => unfold maxLen; omega
      case o3 => omega
      intro rb' rc' w2 hown2 hgrow2 hloc
      have hS2 := (hgrow2.block (w.heap.size + 4 + 20) (by simp; omega) (by simpa using nS)).trans HS.out
      have k5 := (st_cells hS2).2.2.1
      have f5 := frozen_block (i := 5) hS2
      have nrb : rb < wc.heap.size := by
        obtain ⟨cur, h1⟩ := row_block HL.out.row
        exact lt_block h1
      have hm1 := (hgrow2.block wc.heap.size (by simp; omega) (by simp; omega)).trans HM.out.1
      have hm2 := (hgrow2.block (wc.heap.size + 1) (by simp) (by simp; omega)).trans HM.out.2
      have FL := hid (HL.out.recStep (((((Ch.refl wc (· = rb)).alloc _).alloc _).alloc _).trans (Ch.of_gb hgrow2) |>.mono (fun k hk => hk.elim id id)) hown2 hm1 hm2 (Nat.le_refl _) (by omega) (by omega))
      clear hown2 hgrow2 hloc hm1 hm2 HL HI HW1 HS HM
      go_wp2
      go_roundg (gk - 1)
      case measure => omega
      case rel => exact ⟨i + 1, by omega, by go_num, _, _, _, _, _, _, _, FL.out⟩
    · obtain rfl : i = nh := by omega
      have h2 := hid (L2_start hL)
      clear hL
      go_wp2_with fail
      go_loopg [11] nu (fun k s11 wr => ∃ j : Nat, j + k = nu ∧ s11 = .int .i64 j ∧ ∃ ub uc cR aR ys, L2 W (w.heap.size + 4) i j j j ub uc cR aR ys (.slice (some ⟨hb, 0, none⟩) i hc) rb rc M G wr)
      case atStart => exact ⟨0, by omega, rfl, _, _, _, _, _, h2.out⟩
      case round =>
        obtain ⟨j, hjk, rfl, ub, uc, cR, aR, ys, hL⟩ := hrel
        clear h2
        by_cases hlt : j < nu
        · obtain ⟨c3, c4, c5, c6, c7, c8, c9, c10, c11⟩ := st_cells hL.st
          obtain ⟨hA, hdl, hds⟩ := userB_is (i := j) (by omega)
          have HL := hid hL
          have d1 : wr.cell? ⟨w.heap.size + 1 + 1, j, none⟩ = some (.string (userB j)) := ((hL.keep.bel).cell (p := ⟨w.heap.size + 1 + 1, j, none⟩) (by show w.heap.size + 1 + 1 < w.heap.size + 4; omega)).trans ((Hc2.out j).trans hA)
          clear hL
          have hwf : (Lit.int .i32 (j : Int)).wf = true := WalkArith.wf_i32 (by omega)
          have hi3 : (j : Int) < 4 := by omega
          have hwr : IntKind.i32.wrap (j : Int) = j := by rw [IntKind.wrap_i32]; omega
          obtain ⟨w2, hrun, hown2, hgrow2⟩ := (HL.out.oU.drew).update (R := plainElem (H := Unit) Yba.prog 51) law9 Yba.underlying37 (by unfold maxLen; omega) (keyOf_string_mk Yba.underlying9 hds) (plainElem_int Yba.underlying51 hwf)
          rw [hdl] at hown2
          have HO := hid hown2
          have HG := hid (gb_undrew hgrow2)
          clear hown2 hgrow2
          go_upto_region 17 with fail
          go_cut [] (fun wx => L2 W (w.heap.size + 4) i (j + 1) j j ub uc cR aR ys (.slice (some ⟨hb, 0, none⟩) i hc) rb rc M G wx)
          case first =>
            go_region
            all_goals (go_wp2_with fail; go_meet; exact HL.out.map HO.out HG.out)
          case rest =>
          clear HL HO HG hrun c3 c4 c5 c6 c7 c8 c9 c10 c11 d1
          have HL := hid hcut
          clear hcut
          obtain ⟨c3, c4, c5, c6, c7, c8, c9, c10, c11⟩ := st_cells HL.out.st
          have d1 : wc.cell? ⟨w.heap.size + 1 + 1, j, none⟩ = some (.string (userB j)) := ((HL.out.keep.bel).cell (p := ⟨w.heap.size + 1 + 1, j, none⟩) (by show w.heap.size + 1 + 1 < w.heap.size + 4; omega)).trans ((Hc2.out j).trans hA)
          have HI : Hid ((wc.alloc (.cells #[.string (userB j)] 9)).drew.ownsRow 0 9 1 (.slice (some ⟨ub, 0, none⟩) j uc) j ys) := HL.out.ids.alloc _
          have HW1 : Hid (∀ x u, ([.string (userB j)] : List Value)[x]? = some u → (wc.alloc (.cells #[.string (userB j)] 9)).drew.cell? ((⟨wc.heap.size, 0, none⟩ : Addr).add x) = some u) := cell_one_new _ _ _
          have HS := hid (alloc_block (o := .cells #[.string (userB j)] 9) HL.out.st)
          have hsz := (HL.out.keep.sz)
          have lt1 : w.heap.size + 4 + 20 < wc.heap.size := by omega
          have lt2 : w.heap.size + 1 + 1 < wc.heap.size := by omega
          have nS : w.heap.size + 4 + 20 ≠ ub := by
            obtain ⟨cur, h1⟩ := row_block HL.out.ids
            exact ne_block HL.out.st h1 (cells_ne (by decide))
          go_upto_region 18 with fail
          go_cut [] (fun wx => ∃ ub' uc' zs, L2 W (w.heap.size + 4) i (j + 1) (j + 1) j ub' uc' cR aR zs (.slice (some ⟨hb, 0, none⟩) i hc) rb rc M G wx)
          case first =>
            go_region_law (refine step_app rfl (.tmp 103) (.tmp 107) 22 rfl 9 i9 (.string ⟨#[]⟩) 1 16 Yba.underlying22 hi9 hz9 hs9 hb9 rfl (by decide) ub j uc ys (by simp [Act.eval, Act.put]) HI.out ⟨wc.heap.size, 0, none⟩ 1 1 [.string (userB j)] (by decide) (by simp [Act.eval, Act.put]) rfl HW1.out (by intro u hu; simp at hu; subst hu; rfl) (by unfold maxLen; omega) (by omega) ?_; intro ub' uc' w2 hown2 hgrow2 hloc; have hS2 := (hgrow2.block (w.heap.size + 4 + 20) (by simp; omega) (by simpa using nS)).trans HS.out; have k4 := (st_cells hS2).2.2.2.2.1; have f4 := frozen_block (i := 7) hS2)
            all_goals (go_wp2_with fail; go_meet; exact ⟨ub', uc', _, HL.out.idsStep ((((Ch.refl wc (· = ub)).alloc _).drew.trans (Ch.of_gb hgrow2)).mono (fun k hk => hk.elim id id)) hown2 (by simp at hloc; omega)⟩)
          case rest =>
          clear HL HI HW1 HS hsz lt1 lt2 nS c3 c4 c5 c6 c7 c8 c9 c10 c11 d1
          obtain ⟨ub', uc', zs, hcut⟩ := hcut
          have HL := hid hcut
          clear hcut
          obtain ⟨c3, c4, c5, c6, c7, c8, c9, c10, c11⟩ := st_cells HL.out.st
          have HS := hid (alloc_block (o := .cells #[] 66) HL.out.st)
          have hsz := (HL.out.keep.sz)
          go_wp2_with (at_builtin; refine wpList_app0 _ rfl (.tmp 117) (.tmp 119) 38 rfl 66 i66 _ Yba.underlying38 hi66 hz66 hs66 hb66 rfl aR j cR ⟨wc.heap.size, 0, none⟩ 1 1 rfl rfl (by omega) ?_)
          intro aR' cR' w2 hgrow2
          have hS2 := (hgrow2.block (w.heap.size + 4 + 20) (by simp; omega) (by simp)).trans HS.out
          have k5 := (st_cells hS2).2.2.2.2.2.1
          have f5 := frozen_block (i := 8) hS2
          have FL := hid (HL.out.recStep (aR' := aR') (cR' := cR') (((Ch.refl wc (fun _ => False)).alloc _).trans (Ch.of_none hgrow2 (fun _ => False)) |>.mono (fun k hk => hk.elim id id)))
          clear hgrow2 HL HS hS2 c3 c4 c5 c6 c7 c8 c9 c10 c11
          go_wp2
          go_roundg (gk - 1)
          case measure => omega
          case rel => exact ⟨j + 1, by omega, by go_num, _, _, _, _, _, FL.out⟩
        · obtain rfl : j = nu := by omega
          obtain ⟨ui, hui⟩ : ∃ ui : Value, ui = .slice (some ⟨ub, 0, none⟩) j uc := ⟨_, rfl⟩
          obtain ⟨uR, huR⟩ : ∃ uR : Value, uR = .slice (some aR) j cR := ⟨_, rfl⟩
          have h3 := hid (L3_start hL)
          rw [← hui, ← huR] at h3
          clear hui huR
          clear hL
          go_wp2_with fail
          go_loopg [12] np (fun k s12 wr => ∃ l : Nat, l + k = np ∧ s12 = .int .i64 l ∧ ∃ ub uc cR aR ys, L3 W (w.heap.size + 4) i j l l l ub uc cR aR ys (.slice (some ⟨hb, 0, none⟩) i hc) ui uR rb rc M G wr)
          case atStart => exact ⟨0, by omega, rfl, _, _, _, _, _, h3.out⟩
          case round =>
            obtain ⟨l, hlk, rfl, ub, uc, cR, aR, ys, hL⟩ := hrel
            clear h3
            by_cases hlt : l < np
            · obtain ⟨c3, c4, c5, c6, c7, c8, c9, c10, c11⟩ := st_cells hL.st
              obtain ⟨hA, hdl, hds⟩ := permB_is (i := l) (by omega)
              have HL := hid hL
              have d1 : wr.cell? ⟨w.heap.size + 1 + 1 + 1, l, none⟩ = some (.string (permB l)) := ((hL.keep.bel).cell (p := ⟨w.heap.size + 1 + 1 + 1, l, none⟩) (by show w.heap.size + 1 + 1 + 1 < w.heap.size + 4; omega)).trans ((Hc3.out l).trans hA)
              clear hL
              have hwf : (Lit.int .i32 (l : Int)).wf = true := WalkArith.wf_i32 (by omega)
              have hi3 : (l : Int) < 4 := by omega
              have hwr : IntKind.i32.wrap (l : Int) = l := by rw [IntKind.wrap_i32]; omega
              obtain ⟨w2, hrun, hown2, hgrow2⟩ := (HL.out.oP.drew).update (R := plainElem (H := Unit) Yba.prog 79) law9 Yba.underlying41 (by unfold maxLen; omega) (keyOf_string_mk Yba.underlying9 hds) (plainElem_int Yba.underlying79 hwf)
              rw [hdl] at hown2
              have HO := hid hown2
              have HG := hid (gb_undrew hgrow2)
              clear hown2 hgrow2
              go_upto_region 23 with fail
              go_cut [] (fun wx => L3 W (w.heap.size + 4) i j (l + 1) l l ub uc cR aR ys (.slice (some ⟨hb, 0, none⟩) i hc) ui uR rb rc M G wx)
              case first =>
                go_region
                all_goals (go_wp2_with fail; go_meet; exact HL.out.map HO.out HG.out)
              case rest =>
              clear HL HO HG hrun c3 c4 c5 c6 c7 c8 c9 c10 c11 d1
              have HL := hid hcut
              clear hcut
              obtain ⟨c3, c4, c5, c6, c7, c8, c9, c10, c11⟩ := st_cells HL.out.st
              have d1 : wc.cell? ⟨w.heap.size + 1 + 1 + 1, l, none⟩ = some (.string (permB l)) := ((HL.out.keep.bel).cell (p := ⟨w.heap.size + 1 + 1 + 1, l, none⟩) (by show w.heap.size + 1 + 1 + 1 < w.heap.size + 4; omega)).trans ((Hc3.out l).trans hA)
              have HI : Hid ((wc.alloc (.cells #[.string (permB l)] 9)).drew.ownsRow 0 9 1 (.slice (some ⟨ub, 0, none⟩) l uc) l ys) := HL.out.ids.alloc _
              have HW1 : Hid (∀ x u, ([.string (permB l)] : List Value)[x]? = some u → (wc.alloc (.cells #[.string (permB l)] 9)).drew.cell? ((⟨wc.heap.size, 0, none⟩ : Addr).add x) = some u) := cell_one_new _ _ _
              have HS := hid (alloc_block (o := .cells #[.string (permB l)] 9) HL.out.st)
              have hsz := (HL.out.keep.sz)
              have lt1 : w.heap.size + 4 + 20 < wc.heap.size := by omega
              have lt2 : w.heap.size + 1 + 1 + 1 < wc.heap.size := by omega
              have nS : w.heap.size + 4 + 20 ≠ ub := by
                obtain ⟨cur, h1⟩ := row_block HL.out.ids
                exact ne_block HL.out.st h1 (cells_ne (by decide))
              go_upto_region 24 with fail
              go_cut [] (fun wx => ∃ ub' uc' zs, L3 W (w.heap.size + 4) i j (l + 1) (l + 1) l ub' uc' cR aR zs (.slice (some ⟨hb, 0, none⟩) i hc) ui uR rb rc M G wx)
              case first =>
                go_region_law (refine step_app rfl (.tmp 144) (.tmp 148) 22 rfl 9 i9 (.string ⟨#[]⟩) 1 16 Yba.underlying22 hi9 hz9 hs9 hb9 rfl (by decide) ub l uc ys (by simp [Act.eval, Act.put]) HI.out ⟨wc.heap.size, 0, none⟩ 1 1 [.string (permB l)] (by decide) (by simp [Act.eval, Act.put]) rfl HW1.out (by intro u hu; simp at hu; subst hu; rfl) (by unfold maxLen; omega) (by omega) ?_; intro ub' uc' w2 hown2 hgrow2 hloc; have hS2 := (hgrow2.block (w.heap.size + 4 + 20) (by simp; omega) (by simpa using nS)).trans HS.out; have k4 := (st_cells hS2).2.2.2.2.2.2.2.1; have f4 := frozen_block (i := 10) hS2)
                all_goals (go_wp2_with fail; go_meet; exact ⟨ub', uc', _, HL.out.idsStep ((((Ch.refl wc (· = ub)).alloc _).drew.trans (Ch.of_gb hgrow2)).mono (fun k hk => hk.elim id id)) hown2 (by simp at hloc; omega)⟩)
              case rest =>
              clear HL HI HW1 HS hsz lt1 lt2 nS c3 c4 c5 c6 c7 c8 c9 c10 c11 d1
              obtain ⟨ub', uc', zs, hcut⟩ := hcut
              have HL := hid hcut
              clear hcut
              obtain ⟨c3, c4, c5, c6, c7, c8, c9, c10, c11⟩ := st_cells HL.out.st
              have HS := hid (alloc_block (o := .cells #[] 66) HL.out.st)
              have hsz := (HL.out.keep.sz)
              go_wp2_with (at_builtin; refine wpList_app0 _ rfl (.tmp 158) (.tmp 160) 38 rfl 66 i66 _ Yba.underlying38 hi66 hz66 hs66 hb66 rfl aR l cR ⟨wc.heap.size, 0, none⟩ 1 1 rfl rfl (by omega) ?_)
              intro aR' cR' w2 hgrow2
              have hS2 := (hgrow2.block (w.heap.size + 4 + 20) (by simp; omega) (by simp)).trans HS.out
              have k5 := (st_cells hS2).2.2.2.2.2.2.2.2
              have f5 := frozen_block (i := 11) hS2
              have FL := hid (HL.out.recStep (aR' := aR') (cR' := cR') (((Ch.refl wc (fun _ => False)).alloc _).trans (Ch.of_none hgrow2 (fun _ => False)) |>.mono (fun k hk => hk.elim id id)))
              clear hgrow2 HL HS hS2 c3 c4 c5 c6 c7 c8 c9 c10 c11
              go_wp2
              go_roundg (gk - 1)
              case measure => omega
              case rel => exact ⟨l + 1, by omega, by go_num, _, _, _, _, _, FL.out⟩
            · obtain rfl : l = np := by omega
              obtain ⟨pi, hpi⟩ : ∃ pi : Value, pi = .slice (some ⟨ub, 0, none⟩) l uc := ⟨_, rfl⟩
              obtain ⟨pR, hpR⟩ : ∃ pR : Value, pR = .slice (some aR) l cR := ⟨_, rfl⟩
              have h4 := hid (L4_start P R T hL)
              rw [← hpi, ← hpR] at h4
              clear hpi hpR hL
              obtain ⟨hi, hhi⟩ : ∃ hi : Value, hi = .slice (some ⟨hb, 0, none⟩) i hc := ⟨_, rfl⟩
              rw [← hhi] at h4
              clear hhi
              go_wp2_with fail
              go_loopg [13, 14] i (fun k s13 s14 wr => ∃ x : Nat, x + k = i ∧ s14 = .int .i64 x ∧ s13 = .int .i64 (sumC P j x : Nat) ∧ L4 W (w.heap.size + 4) i j l (fun t => if t < x then j else 0) (fun t => if t < x then l else 0) hi ui uR pi pR rb rc M G P R T wr)
              case atStart => exact ⟨0, by omega, rfl, rfl, h4.out⟩
              case round =>
                obtain ⟨x, hxk, rfl, rfl, hL⟩ := hrel
                clear h4
                by_cases hltx : x < i
                · have h5 := hid (hL.congr (fun t _ => tri_open x j t) (fun t _ => rfl))
                  clear hL
                  have hsc := sumC_le P j x (by omega)
                  go_wp2_with fail
                  go_loopg [13, 15] j (fun k s13 s15 wr => ∃ y : Nat, y + k = j ∧ s15 = .int .i64 y ∧ s13 = .int .i64 ((sumC P j x + cnt (P x) y : Nat) : Int) ∧ L4 W (w.heap.size + 4) i j l (fun t => if t < x then j else if t = x then y else 0) (fun t => if t < x then l else 0) hi ui uR pi pR rb rc M G P R T wr)
                  case atStart => exact ⟨0, by omega, rfl, rfl, h5.out⟩
                  case round =>
                    obtain ⟨y, hyk, rfl, rfl, hL⟩ := hrel
                    clear h5
                    by_cases hlt2 : y < j
                    · obtain ⟨c3, c4, c5, c6, c7, c8, c9, c10, c11⟩ := st_cells hL.st
                      clear c3 c4 c6 c7 c8 c9 c10 c11
                      have hcl := cnt_le (P x) y
                      have gx : ∀ o, wr.cell? ⟨w.heap.size, o, none⟩ = gA[o]? := fun o => (hL.bel.cell (p := ⟨w.heap.size, o, none⟩) (by show w.heap.size < w.heap.size + 4; omega)).trans (Hc0.out o)
                      have p1 : wr.cell? ⟨w.heap.size, 3 + x * 3 + y, none⟩ = some (.bool (P x y)) := (gx _).trans (g.p x y (by omega) (by omega))
                      have r1 : wr.cell? ⟨w.heap.size, 12 + x * 3 + y, none⟩ = some (.int .u8 (R x y)) := (gx _).trans (g.r x y (by omega) (by omega))
                      clear gx
                      have HL := hid hL
                      by_cases hp : P x y = true
                      · rw [hp] at p1
                        obtain ⟨m4, m5⟩ := host_cell hL.row x hltx
                        clear m5
                        have hbr := g.br x y
                        have hwf : (Lit.int .i32 (y : Int)).wf = true := WalkArith.wf_i32 (by omega)
                        have hwu : (Lit.int .u8 (R x y)).wf = true := WalkArith.wf_u8 (by omega)
                        have hi3 : (y : Int) < 4 := by omega
                        have hwr : IntKind.i32.wrap (y : Int) = y := by rw [IntKind.wrap_i32]; omega
                        obtain ⟨w2, hrun, hown2, hgrow2⟩ := ((hL.mem_at hltx).drew).update (R := plainElem (H := Unit) Yba.prog 60) law51 Yba.underlying61 (by unfold maxLen; omega) (keyOf_int_mk Yba.underlying51 hwf) (plainElem_int Yba.underlying60 hwu)
                        have FL := hid (hL.memRound hltx hp hown2 (gb_undrew hgrow2))
                        have hc1 := cnt_pos hp
                        clear hown2 hgrow2 hL
                        go_upto_region 34 with fail
                        go_cut [] (fun wx => L4 W (w.heap.size + 4) i j l (fun t => if t < x then j else if t = x then y + 1 else 0) (fun t => if t < x then l else 0) hi ui uR pi pR rb rc M G P R T wx)
                        case first =>
                          go_region
                          all_goals (go_wp2_with fail; go_meet; exact FL.out)
                        case rest =>
                        clear HL FL hrun c5 p1 r1 m4
                        have HL := hid hcut
                        clear hcut
                        go_wp2
                        go_roundg (gk - 1)
                        case measure => omega
                        case rel => exact ⟨y + 1, by omega, by go_num, by rw [hc1]; go_num, HL.out⟩
                      · have hp' : P x y = false := by simpa using hp
                        rw [hp'] at p1
                        have hc1 := cnt_neg hp'
                        clear hL
                        go_wp2
                        go_roundg (gk - 1)
                        case measure => omega
                        case rel => exact ⟨y + 1, by omega, by go_num, by rw [hc1], HL.out.memPass hltx hp'⟩
                    · obtain rfl : y = j := by omega
                      have h6 := hid (hL.congr (fun t _ => tri_done x y t) (fun t _ => tri_open x l t))
                      have hcl := cnt_le (P x) y
                      clear hL
                      go_wp2_with fail
                      go_loopg [16] l (fun k s16 wr => ∃ z : Nat, z + k = l ∧ s16 = .int .i64 z ∧ L4 W (w.heap.size + 4) i y l (fun t => if t < x + 1 then y else 0) (fun t => if t < x then l else if t = x then z else 0) hi ui uR pi pR rb rc M G P R T wr)
                      case atStart => exact ⟨0, by omega, rfl, h6.out⟩
                      case round =>
                        obtain ⟨z, hzk, rfl, hL⟩ := hrel
                        clear h6
                        by_cases hlt3 : z < l
                        · obtain ⟨c3, c4, c5, c6, c7, c8, c9, c10, c11⟩ := st_cells hL.st
                          clear c3 c4 c6 c7 c8 c9 c10 c11
                          have gx : ∀ o, wr.cell? ⟨w.heap.size, o, none⟩ = gA[o]? := fun o => (hL.bel.cell (p := ⟨w.heap.size, o, none⟩) (by show w.heap.size < w.heap.size + 4; omega)).trans (Hc0.out o)
                          have r1 : wr.cell? ⟨w.heap.size, 21 + x * 3 + z, none⟩ = some (.int .u8 (T x z)) := (gx _).trans (g.t x z (by omega) (by omega))
                          clear gx
                          obtain ⟨m4, m5⟩ := host_cell hL.row x hltx
                          clear m4
                          have hbr := g.bt x z
                          have hwf : (Lit.int .i32 (z : Int)).wf = true := WalkArith.wf_i32 (by omega)
                          have hwu : (Lit.int .u8 (T x z)).wf = true := WalkArith.wf_u8 (by omega)
                          have hi3 : (z : Int) < 4 := by omega
                          have hwr : IntKind.i32.wrap (z : Int) = z := by rw [IntKind.wrap_i32]; omega
                          obtain ⟨w2, hrun, hown2, hgrow2⟩ := ((hL.grt_at hltx).drew).update (R := plainElem (H := Unit) Yba.prog 60) law79 Yba.underlying62 (by unfold maxLen; omega) (keyOf_int_mk Yba.underlying79 hwf) (plainElem_int Yba.underlying60 hwu)
                          have FL := hid (hL.grtRound hltx hown2 (gb_undrew hgrow2))
                          clear hown2 hgrow2 hL
                          go_upto_region 39 with fail
                          go_region
                          all_goals (
                            go_wp2
                            go_roundg (l - (z + 1))
                            case measure => omega
                            case rel => exact ⟨z + 1, by omega, by go_num, FL.out⟩)
                        · obtain rfl : z = l := by omega
                          have HL := hid (hL.congr (fun t _ => rfl) (fun t _ => tri_done x z t))
                          clear hL
                          go_wp2
                          go_roundg (i - (x + 1))
                          case measure => omega
                          case rel => exact ⟨x + 1, by omega, by go_num, rfl, HL.out⟩
                · obtain rfl : x = i := by omega
                  have hsc := sumC_le P j x (by omega)
                  have HL := hid (hL.congr (a' := fun _ => j) (b' := fun _ => l) (fun t ht => if_pos ht) (fun t ht => if_pos ht))
                  obtain ⟨c3, c4, c5, c6, c7, c8, c9, c10, c11⟩ := st_cells hL.st
                  clear c4 c7 c8 c10 c11
                  have gx : ∀ o, wr.cell? ⟨w.heap.size, o, none⟩ = gA[o]? := fun o => (hL.bel.cell (p := ⟨w.heap.size, o, none⟩) (by show w.heap.size < w.heap.size + 4; omega)).trans (Hc0.out o)
                  have x0 : wr.cell? ⟨w.heap.size, 30, none⟩ = some (.int .u8 q0) := (gx _).trans g.x0
                  have x1 : wr.cell? ⟨w.heap.size, 31, none⟩ = some (.int .u8 q1) := (gx _).trans g.x1
                  have x2 : wr.cell? ⟨w.heap.size, 32, none⟩ = some (.int .u8 q2) := (gx _).trans g.x2
                  have HX := hid gx
                  clear gx hL
                  have d0 := g.d0
                  have d1 := g.d1
                  have d2 := g.d2
                  obtain ⟨qh, f0, f0', hqh⟩ : ∃ qh : Nat, (q0 : Int) % 4 ≤ (qh : Int) ∧ (qh : Int) ≤ (q0 : Int) % 4 ∧ qh < 4 := ⟨q0 % 4, by omega, by omega, by omega⟩
                  obtain ⟨qu, f1, f1', hqu⟩ : ∃ qu : Nat, (q1 : Int) % 4 ≤ (qu : Int) ∧ (qu : Int) ≤ (q1 : Int) % 4 ∧ qu < 4 := ⟨q1 % 4, by omega, by omega, by omega⟩
                  obtain ⟨qp, f2, f2', hqp⟩ : ∃ qp : Nat, (q2 : Int) % 4 ≤ (qp : Int) ∧ (qp : Int) ≤ (q2 : Int) % 4 ∧ qp < 4 := ⟨q2 % 4, by omega, by omega, by omega⟩
                  have f0e : (q0 : Int) % 4 = (qh : Int) := by omega
                  have f1e : (q1 : Int) % 4 = (qu : Int) := by omega
                  have f2e : (q2 : Int) % 4 = (qp : Int) := by omega
                  obtain ⟨ah, lh, sh⟩ := hostB_is hqh
                  obtain ⟨au, lu, su⟩ := userB_is hqu
                  obtain ⟨ap, lp, sp⟩ := permB_is hqp
                  have y1 : wr.cell? ⟨w.heap.size + 1, qh, none⟩ = some (.string (hostB qh)) := (HL.out.bel.cell (p := ⟨w.heap.size + 1, qh, none⟩) (by show w.heap.size + 1 < w.heap.size + 4; omega)).trans ((Hc1.out qh).trans ah)
                  have y2 : wr.cell? ⟨w.heap.size + 1 + 1, qu, none⟩ = some (.string (userB qu)) := (HL.out.bel.cell (p := ⟨w.heap.size + 1 + 1, qu, none⟩) (by show w.heap.size + 1 + 1 < w.heap.size + 4; omega)).trans ((Hc2.out qu).trans au)
                  have y3 : wr.cell? ⟨w.heap.size + 1 + 1 + 1, qp, none⟩ = some (.string (permB qp)) := (HL.out.bel.cell (p := ⟨w.heap.size + 1 + 1 + 1, qp, none⟩) (by show w.heap.size + 1 + 1 + 1 < w.heap.size + 4; omega)).trans ((Hc3.out qp).trans ap)
                  have HA := hid (fun n => allowed8 _ _ _ _ _ _ _ _ _ _ _ _ _ _ _ _ P R T (wr.drewN n) ((HL.out.drewN n).ready hnh hnu hnp) hostL_inj userL_inj permL_inj hnh hnu hnp qh qu qp hqh hqu hqp _ _ _ lh lu lp sh su sp)
                  clear ah au ap lh lu lp sh su sp
                  have e0e : (a0 : Int) % 4 = (x : Int) := by omega
                  have e1e : (a1 : Int) % 4 = (j : Int) := by omega
                  have e2e : (a2 : Int) % 4 = (l : Int) := by omega
                  have ihq : (qh : Int) < 4 := by omega
                  have iuq : (qu : Int) < 4 := by omega
                  have ipq : (qp : Int) < 4 := by omega
                  go_upto_region 43 with fail
                  rw [f0e, f1e, f2e, e0e, e1e, e2e]
                  go_quiet (first | (go_at_call 8; refine Calls.quiet_of_same (HA.out _)))
                  clear x0 x1 x2 y1 y2 y3
                  go_upto_region 44 with fail
                  refine region44 w.heap.size x j l qh qu qp P R T (wr.drewN nq) (by omega) (by omega) (by omega) ihq iuq ipq ?p1 ?r1 ?t1 ?_
                  case p1 => intro k1 k2; have h := (HX.out (3 + qh * 3 + qu)).trans (g.p qh qu (by omega) (by omega)); simpa using h
                  case r1 => intro k1 k2; have h := (HX.out (12 + qh * 3 + qu)).trans (g.r qh qu (by omega) (by omega)); simpa using h
                  case t1 => intro k1 k2; have h := (HX.out (21 + qh * 3 + qp)).trans (g.t qh qp (by omega) (by omega)); simpa using h
                  intro n44 t245 t246 t247 t248 t249 t250 t251 t252 t253 t254 t255 t256 t257 t258 t259 t260 t261 t262 t263 t264 t265 t266 t267 t268 t269 t270 t271 t272 t273 t274 t275 t276 t277 t278 t279 t280 t281
                  rw [World.drewN_drewN]
                  generalize nq + n44 = m
                  generalize decide ((x : Int) < (x : Int)) = bx
                  generalize decide ((j : Int) < (j : Int)) = bj
                  generalize decide ((l : Int) < (l : Int)) = bl
                  obtain ⟨wc, hm⟩ : ∃ wc, wc = wr.drewN m := ⟨_, rfl⟩
                  rw [← hm]
                  have HL' : Hid (L4 W (w.heap.size + 4) x j l (fun _ => j) (fun _ => l) hi ui uR pi pR rb rc M G P R T wc) := by rw [hm]; exact HL.out.drewN m
                  clear HL HX HA c3 c5 c6 c9 hm
                  generalize wantB x j l qh qu qp P R T = bb
                  obtain ⟨c3, c4, c5, c6, c7, c8, c9, c10, c11⟩ := st_cells HL'.out.st
                  clear c4 c7 c8 c10 c11
                  go_wp2_with fail
                  go_loopg [22, 23] x (fun k s22 s23 wx => ∃ z : Nat, z + k = x ∧ s23 = .int .i64 z ∧ s22 = .int .i64 (sumC P j z : Nat) ∧ wx = wc)
                  case atStart => exact ⟨0, by omega, rfl, rfl, rfl⟩
                  case round =>
                    obtain ⟨z, hzk, rfl, rfl, rfl⟩ := hrel
                    by_cases hz : z < x
                    · obtain ⟨m4, m5⟩ := host_cell HL'.out.row z hz
                      have hsc := sumC_le P j z (by omega)
                      have hcn := cnt_le (P z) j
                      have o1 := HL'.out.mem z hz
                      have o2 := HL'.out.grt z hz
                      go_wp2_with (at_len; first | refine len_is rfl _ 61 rfl 51 60 Yba.underlying61 _ (M z) _ _ rfl o1 (cnt (P z) j) (size_memD _ _ _) ?_ | refine len_is rfl _ 62 rfl 79 60 Yba.underlying62 _ (G z) _ _ rfl o2 l ((size_memD _ _ _).trans (cnt_true _)) ?_)
                      clear o1 o2 m4 m5
                      go_roundg (x - (z + 1))
                      case measure => omega
                      case rel => exact ⟨z + 1, by omega, by go_num, by rw [sumC_succ]; go_num, rfl⟩
                    · obtain rfl : z = x := by omega
                      have o3 := HL'.out.oU.len (t := 37) (e := 51) Yba.underlying37 3
                      have o4 := HL'.out.oP.len (t := 41) (e := 79) Yba.underlying41 3
                      rw [size_numD _ userL_inj _ (by omega)] at o3
                      rw [size_numD _ permL_inj _ (by omega)] at o4
                      go_upto_region 54 with fail
                      go_wp2_with fail
                      go_ret
                      refine ⟨rfl, ?_⟩
                      have hb4 := HL'.out.bel.mono (B' := w.heap.size) (by omega)
                      refine Below.trans ?_ hb4
                      rw [HW.out]
                      exact ((((Below.refl w.heap.size w).alloc (Nat.le_refl _) _).alloc (by simp) _).alloc (by simp; omega) _).alloc (by simp; omega) _

end Go.Proofs.Ybulkbglm
