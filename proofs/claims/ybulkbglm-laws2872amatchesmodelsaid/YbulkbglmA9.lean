/-
  LawS2872AMatchesModel: the walk of function 3, cut around every loop.
-/
import Derived.Test.YbulkbglmB0
import Derived.Deep.CutBlock
import Derived.Deep.DeepCutAuto
namespace Go.Proofs.Ybulkbglm
open Go Go.RowKit Go.Maps Go.WideMaps
set_option linter.unusedSimpArgs false
set_option linter.unusedVariables false

set_option maxHeartbeats 64000000 in
set_option maxRecDepth 100000 in
theorem matches3_main (a0 : Option Addr) (n0 k0 : Nat) (dl : List (List UInt8)) (a1 : Option Addr) (n1 k1 : Nat) (zl : List Nat) (a2 : Option Addr) (n2 k2 : Nat) (ul : List (List UInt8)) (a3 : Option Addr) (n3 k3 : Nat) (pl : List (Nat × Nat)) (sel : Nat) (ql : List UInt8) (w : World)
    (t0 : Tex w a0 n0 dl) (t1 : Byt w a1 n1 zl) (t2 : Tex w a2 n2 ul) (t3 : Prs w a3 n3 pl) (hsel : sel < 256) (hq : ql.length ≤ maxLen) (m0 : n0 ≤ maxLen) (m1 : n1 ≤ maxLen) (m2 : n2 ≤ maxLen) (m3 : n3 ≤ maxLen)
    (g0 : ¬ 256 < n0) (g1 : ¬ 256 < n1) (g2 : ¬ 256 < n2) (g3 : ¬ 1024 < n3) :
    Calls Yba.prog 3 #[.slice a0 n0 k0, .slice a1 n1 k1, .slice a2 n2 k2, .slice a3 n3 k3, .int .u8 (sel : Int), .string ⟨ql.toArray⟩] w fun e w' => e = .returned (.bool true) ∧ Below w.heap.size w w' := by
  have e47 : maxLen ≤ 9223372036854775807 := by unfold maxLen; omega
  obtain ⟨i9, hi9, hz9, hs9, hb9⟩ := info_parts Yba.info9a
  obtain ⟨i59, hi59, hz59, hs59, hb59⟩ := info_parts Yba.info59
  obtain ⟨i64, hi64, hz64, hs64, hb64⟩ := info_parts Yba.info64a
  obtain ⟨i66, hi66, hz66, hs66, hb66⟩ := info_parts Yba.info66a
  obtain ⟨i57, hi57, hz57, hs57, hb57⟩ := info_parts Yba.info57a
  obtain ⟨N, hN⟩ : ∃ N, N = w.heap.size := ⟨_, rfl⟩
  have HNew := hid (newState_any w N hN)
  have HT0 := hid t0
  have HT1 := hid t1
  have HT2 := hid t2
  have HT3 := hid t3
  have HNN := hid hN
  have HSel := hid hsel
  have HQl := hid hq
  clear t0 t1 t2 t3 hN hsel hq
  go_enter Yba.func3, Yba.ntmps3
  go_upto_block 0 with (go_at_call 5; refine HNew.out.mono ?_; rintro e w1 ⟨rfl, hm⟩)
  have HD := hid (show ∃ V L C DO c, D1 N w dl 0 V L C DO c w1 from ⟨V0 N, _, _, _, 0, Q_start hm, NN_start N, Nat.le_refl _, rfl, rfl, rfl, ⟨rfl, rfl, rfl, rfl, rfl, rfl, rfl, rfl, rfl⟩, hm.below⟩)
  clear hm HNew
  go_cut [] from 36 to 106 (fun wx => ∃ V L C DO c, D1 N w dl n0 V L C DO c wx)
  case first =>
    rename_i K0 aK J0 K1 aJ aM
    clear aK K0
    go_wp2_with fail
    go_loopg [57] n0 (fun k s57 wr => ∃ i : Nat, i + k = n0 ∧ s57 = .int .i64 i ∧ ∃ V L C DO c, D1 N w dl i V L C DO c wr)
    case atStart => exact ⟨0, by omega, rfl, HD.out⟩
    case round =>
      obtain ⟨i, hik, rfl, V, L, C, DO, c, hD⟩ := hrel
      clear HD
      by_cases hlt : i < n0
      · obtain ⟨d, hd⟩ : ∃ d, dl[i]? = some d := ⟨dl[i]'(by rw [HT0.out.len]; exact hlt), List.getElem?_eq_getElem _⟩
        obtain ⟨ad, had, hab, hac⟩ := HT0.out.cell i d hd
        subst had
        have hdl : d.length ≤ maxLen := HT0.out.le d (List.mem_of_getElem? hd)
        have hss : (ByteArray.mk d.toArray).size ≤ maxLen := by show d.toArray.size ≤ _; simpa using hdl
        have r0 : wr.cell? (ad.add i) = some (.string ⟨d.toArray⟩) := (hD.bel.cell (p := ad.add i) (by rw [addB, HNN.out]; exact hab)).trans hac
        have s0 : wr.cell? ⟨N + 20, 0, none⟩ = some (.map (some (N + 1))) := cell_block hD.q.st rfl
        have hiw : (Lit.int .i32 (i : Int)).wf = true := WalkArith.wf_i32 (by omega)
        have hwr : IntKind.i32.wrap (i : Int) = i := by rw [IntKind.wrap_i32]; omega
        have hmO := hD.q.mO
        have hcc := hD.cc
        have HD := hid hD
        obtain ⟨g, cap, hv0⟩ := hD.nn 0 (by omega)
        obtain ⟨gr, capr, hv1⟩ := hD.nn 1 (by omega)
        rw [hD.l0] at hv0
        rw [hD.l1] at hv1
        have HV0 := hid hv0
        have HV1 := hid hv1
        have HGo : Hid (∃ WW DO' c', Q N V L C (sl0 (N + 11)) DO' (.map []) (fun _ => []) (fun _ => .slice none 0 0) c' WW ∧ c' ≤ i + 1 ∧ Below N w WW) := ⟨wr, DO, c, hD.q, by omega, hD.bel⟩
        obtain ⟨w2, hrun, hq2, hch2⟩ := hD.q.putO (by unfold maxLen; omega) hss hiw
        have HQ2 := hid hq2
        have HB2 : Hid (Below N w w2) := Ch.below hD.bel hch2 (by have := hD.q.sz; omega) (fun q hq => hq)
        clear hq2 hch2 HGo hv0 hv1
        cases hh : Maps.has DO (.string (ByteArray.mk d.toArray).data.toList) with
        | true =>
          have HQ1 : Hid (∃ DO' c', Q N V L C (sl0 (N + 11)) DO' (.map []) (fun _ => []) (fun _ => .slice none 0 0) c' wr ∧ c' ≤ i + 1 ∧ Below N w wr) := ⟨DO, c, hD.q, by omega, hD.bel⟩
          clear hD HQ2 HB2 hrun
          go_upto_region 10 with (at_lookup; refine wpList_lookup_own_ok_int _ rfl _ _ 29 rfl 9 27 .i32 law9 Yba.underlying29 Yba.underlying27 (zero27 _) (N + 1) c DO rfl hmO _ _ rfl (keyOf_string_mk Yba.underlying9 hss) ?_; intro cc hat hwc)
          obtain ⟨DO', c', hQ, hc', hbel⟩ := HQ1.out
          have hz0 : wr.cell? ⟨N + 20, 1, none⟩ = some (.slice (some ⟨g, 0, none⟩) i cap) := hQ.at (r := 0) (by omega) HV0.out
          have hrow0 := (hQ.alloc (.cells #[.string ⟨d.toArray⟩] 9)).row 0 (by omega)
          rw [HV0.out, HD.out.l0] at hrow0
          have HI0 : Hid ((wr.alloc (.cells #[.string ⟨d.toArray⟩] 9)).ownsRow 0 9 1 (.slice (some ⟨g, 0, none⟩) i cap) i (C 0)) := hrow0
          have HN0 := hid (news_at wr #[.string ⟨d.toArray⟩] 9 [.string ⟨d.toArray⟩] wr.heap.size rfl rfl)
          have HQ := hid hQ
          have HBel := hid hbel
          clear hrow0 hQ hbel hmO hh HQ1 hat hwc r0 s0
          go_wp2_with (at_builtin; refine wpList_app _ rfl (.tmp 87) (.tmp 89) 22 rfl 9 i9 _ 1 16 Yba.underlying22 hi9 hz9 hs9 hb9 rfl (by decide) g i cap (C 0) rfl HI0.out ⟨wr.heap.size, 0, none⟩ 1 1 [.string ⟨d.toArray⟩] (by decide) rfl rfl HN0.out (by intro u hu; simp at hu; subst hu; rfl) (by unfold maxLen; omega) (by omega) ?_)
          intro b1 c1 w3 hown3 hg3 hloc3
          obtain ⟨hst3, hQ3, hNN3, hCh3⟩ := HQ.out.appended HD.out.nn (r := 0) (by omega) (by rw [HD.out.l0]; exact HV0.out) (o := .cells #[.string ⟨d.toArray⟩] 9) hown3 hg3 (by simpa using hloc3)
          have x1 := cell_block (i := 1) hst3 (stV_get N V (sl0 (N + 11)) (r := 0) (by omega))
          have x2 := frozen_block (i := 1) hst3
          have HQ3 := hid hQ3
          have HB3 : Hid (Below N w (w3.setCell ⟨N + 20, ci 0, none⟩ (.slice (some ⟨b1, 0, none⟩) (i + 1) c1))) := Ch.below HBel.out hCh3 (by have := HQ.out.sz; omega) (fun q hq => hq)
          clear hown3 hg3 hloc3 hst3 hQ3 hNN3 hCh3 HI0 HN0 hz0
          go_upto_region 11 with fail
          obtain ⟨W4, hW4⟩ : ∃ W4, W4 = w3.setCell ⟨N + 20, 1, none⟩ (.slice (some ⟨b1, 0, none⟩) (i + 1) c1) := ⟨_, rfl⟩
          rw [← hW4]
          have hQ4 : Q N (upV V 0 (.slice (some ⟨b1, 0, none⟩) (i + 1) c1)) (upV L 0 (i + 1)) (upV C 0 (C 0 ++ [.string ⟨d.toArray⟩])) (sl0 (N + 11)) DO' (.map []) (fun _ => []) (fun _ => .slice none 0 0) c' W4 := by rw [hW4]; exact HQ3.out
          have hB4 : Below N w W4 := by rw [hW4]; exact HB3.out
          clear HQ3 HB3 x1 x2 hW4 HQ HBel
          have hz1 : W4.cell? ⟨N + 20, 2, none⟩ = some (.slice (some ⟨gr, 0, none⟩) i capr) := hQ4.at (r := 1) (by omega) (by show V 1 = _; exact HV1.out)
          have hrow1 := (hQ4.alloc (.cells #[.string ⟨#[]⟩, .string ⟨#[]⟩, .int .i32 0, .string ⟨#[]⟩, .int .u64 0, .int .i64 0, .pointer none, .slice none 0 0, .int .i32 0] 59)).row 1 (by omega)
          have hNN4 : NN (upV V 0 (.slice (some ⟨b1, 0, none⟩) (i + 1) c1)) (upV L 0 (i + 1)) := HD.out.nn.up
          have ev : upV V 0 (.slice (some ⟨b1, 0, none⟩) (i + 1) c1) 1 = .slice (some ⟨gr, 0, none⟩) (upV L 0 (i + 1) 1) capr := by show V 1 = .slice _ (L 1) _; rw [HD.out.l1]; exact HV1.out
          rw [ev] at hrow1
          have el : upV L 0 (i + 1) 1 = i := HD.out.l1
          rw [el] at hrow1
          have HI1 : Hid ((W4.alloc (.cells #[.string ⟨#[]⟩, .string ⟨#[]⟩, .int .i32 0, .string ⟨#[]⟩, .int .u64 0, .int .i64 0, .pointer none, .slice none 0 0, .int .i32 0] 59)).ownsRow 0 59 9 (.slice (some ⟨gr, 0, none⟩) i capr) i (C 1)) := hrow1
          have HN1 := hid (news_at W4 #[.string ⟨#[]⟩, .string ⟨#[]⟩, .int .i32 0, .string ⟨#[]⟩, .int .u64 0, .int .i64 0, .pointer none, .slice none 0 0, .int .i32 0] 59 _ W4.heap.size rfl rfl)
          have HQ := hid hQ4
          have HBel := hid hB4
          have HNN4 := hid hNN4
          have HEv := hid ev
          clear hrow1 hQ4 hB4 hNN4 ev el
          go_wp2_with (at_builtin; refine wpList_app _ rfl (.tmp 99) (.tmp 101) 30 rfl 59 i59 _ 9 112 Yba.underlying30 hi59 hz59 hs59 hb59 rfl (by decide) gr i capr (C 1) rfl HI1.out ⟨W4.heap.size, 0, none⟩ 1 1 _ (by decide) rfl rfl HN1.out ?o1 (by unfold maxLen; omega) (by omega) ?_)
          case o1 => and_intros <;> rfl
          intro b2 c2 w5 hown5 hg5 hloc5
          obtain ⟨hst5, hQ5, hNN5, hCh5⟩ := HQ.out.appended HNN4.out (r := 1) (by omega) HEv.out (o := .cells #[.string ⟨#[]⟩, .string ⟨#[]⟩, .int .i32 0, .string ⟨#[]⟩, .int .u64 0, .int .i64 0, .pointer none, .slice none 0 0, .int .i32 0] 59) hown5 hg5 (by simpa using hloc5)
          have x1 := cell_block (i := 2) hst5 (stV_get N _ (sl0 (N + 11)) (r := 1) (by omega))
          have x2 := frozen_block (i := 2) hst5
          have HFin := hid (HD.out.next hd hc' hQ5 (Ch.below HBel.out hCh5 (by have := HQ.out.sz; omega) (fun q hq => hq)))
          clear hown5 hg5 hloc5 hst5 hQ5 hNN5 hCh5 HI1 HN1 hz1 HQ HBel HNN4 HEv HD
          go_wp2
          go_roundg (gk - 1)
          case measure => omega
          case rel => exact ⟨i + 1, by omega, by go_num, HFin.out⟩
        | false =>
          have HQ1 : Hid (∃ DO' c', Q N V L C (sl0 (N + 11)) DO' (.map []) (fun _ => []) (fun _ => .slice none 0 0) c' w2 ∧ c' ≤ i + 1 ∧ Below N w w2) := ⟨_, c + 1, HQ2.out, by omega, HB2.out⟩
          clear hD HQ2 HB2
          go_upto_region 10 with (at_lookup; refine wpList_lookup_own_ok_int _ rfl _ _ 29 rfl 9 27 .i32 law9 Yba.underlying29 Yba.underlying27 (zero27 _) (N + 1) c DO rfl hmO _ _ rfl (keyOf_string_mk Yba.underlying9 hss) ?_; intro cc hat hwc)
          obtain ⟨DO', c', hQ, hc', hbel⟩ := HQ1.out
          have hz0 : w2.cell? ⟨N + 20, 1, none⟩ = some (.slice (some ⟨g, 0, none⟩) i cap) := hQ.at (r := 0) (by omega) HV0.out
          have hrow0 := (hQ.alloc (.cells #[.string ⟨d.toArray⟩] 9)).row 0 (by omega)
          rw [HV0.out, HD.out.l0] at hrow0
          have HI0 : Hid ((w2.alloc (.cells #[.string ⟨d.toArray⟩] 9)).ownsRow 0 9 1 (.slice (some ⟨g, 0, none⟩) i cap) i (C 0)) := hrow0
          have HN0 := hid (news_at w2 #[.string ⟨d.toArray⟩] 9 [.string ⟨d.toArray⟩] w2.heap.size rfl rfl)
          have HQ := hid hQ
          have HBel := hid hbel
          clear hrow0 hQ hbel hmO hh HQ1 hat hwc r0 s0
          go_wp2_with (at_builtin; refine wpList_app _ rfl (.tmp 87) (.tmp 89) 22 rfl 9 i9 _ 1 16 Yba.underlying22 hi9 hz9 hs9 hb9 rfl (by decide) g i cap (C 0) rfl HI0.out ⟨w2.heap.size, 0, none⟩ 1 1 [.string ⟨d.toArray⟩] (by decide) rfl rfl HN0.out (by intro u hu; simp at hu; subst hu; rfl) (by unfold maxLen; omega) (by omega) ?_)
          intro b1 c1 w3 hown3 hg3 hloc3
          obtain ⟨hst3, hQ3, hNN3, hCh3⟩ := HQ.out.appended HD.out.nn (r := 0) (by omega) (by rw [HD.out.l0]; exact HV0.out) (o := .cells #[.string ⟨d.toArray⟩] 9) hown3 hg3 (by simpa using hloc3)
          have x1 := cell_block (i := 1) hst3 (stV_get N V (sl0 (N + 11)) (r := 0) (by omega))
          have x2 := frozen_block (i := 1) hst3
          have HQ3 := hid hQ3
          have HB3 : Hid (Below N w (w3.setCell ⟨N + 20, ci 0, none⟩ (.slice (some ⟨b1, 0, none⟩) (i + 1) c1))) := Ch.below HBel.out hCh3 (by have := HQ.out.sz; omega) (fun q hq => hq)
          clear hown3 hg3 hloc3 hst3 hQ3 hNN3 hCh3 HI0 HN0 hz0
          go_upto_region 11 with fail
          obtain ⟨W4, hW4⟩ : ∃ W4, W4 = w3.setCell ⟨N + 20, 1, none⟩ (.slice (some ⟨b1, 0, none⟩) (i + 1) c1) := ⟨_, rfl⟩
          rw [← hW4]
          have hQ4 : Q N (upV V 0 (.slice (some ⟨b1, 0, none⟩) (i + 1) c1)) (upV L 0 (i + 1)) (upV C 0 (C 0 ++ [.string ⟨d.toArray⟩])) (sl0 (N + 11)) DO' (.map []) (fun _ => []) (fun _ => .slice none 0 0) c' W4 := by rw [hW4]; exact HQ3.out
          have hB4 : Below N w W4 := by rw [hW4]; exact HB3.out
          clear HQ3 HB3 x1 x2 hW4 HQ HBel
          have hz1 : W4.cell? ⟨N + 20, 2, none⟩ = some (.slice (some ⟨gr, 0, none⟩) i capr) := hQ4.at (r := 1) (by omega) (by show V 1 = _; exact HV1.out)
          have hrow1 := (hQ4.alloc (.cells #[.string ⟨#[]⟩, .string ⟨#[]⟩, .int .i32 0, .string ⟨#[]⟩, .int .u64 0, .int .i64 0, .pointer none, .slice none 0 0, .int .i32 0] 59)).row 1 (by omega)
          have hNN4 : NN (upV V 0 (.slice (some ⟨b1, 0, none⟩) (i + 1) c1)) (upV L 0 (i + 1)) := HD.out.nn.up
          have ev : upV V 0 (.slice (some ⟨b1, 0, none⟩) (i + 1) c1) 1 = .slice (some ⟨gr, 0, none⟩) (upV L 0 (i + 1) 1) capr := by show V 1 = .slice _ (L 1) _; rw [HD.out.l1]; exact HV1.out
          rw [ev] at hrow1
          have el : upV L 0 (i + 1) 1 = i := HD.out.l1
          rw [el] at hrow1
          have HI1 : Hid ((W4.alloc (.cells #[.string ⟨#[]⟩, .string ⟨#[]⟩, .int .i32 0, .string ⟨#[]⟩, .int .u64 0, .int .i64 0, .pointer none, .slice none 0 0, .int .i32 0] 59)).ownsRow 0 59 9 (.slice (some ⟨gr, 0, none⟩) i capr) i (C 1)) := hrow1
          have HN1 := hid (news_at W4 #[.string ⟨#[]⟩, .string ⟨#[]⟩, .int .i32 0, .string ⟨#[]⟩, .int .u64 0, .int .i64 0, .pointer none, .slice none 0 0, .int .i32 0] 59 _ W4.heap.size rfl rfl)
          have HQ := hid hQ4
          have HBel := hid hB4
          have HNN4 := hid hNN4
          have HEv := hid ev
          clear hrow1 hQ4 hB4 hNN4 ev el
          go_wp2_with (at_builtin; refine wpList_app _ rfl (.tmp 99) (.tmp 101) 30 rfl 59 i59 _ 9 112 Yba.underlying30 hi59 hz59 hs59 hb59 rfl (by decide) gr i capr (C 1) rfl HI1.out ⟨W4.heap.size, 0, none⟩ 1 1 _ (by decide) rfl rfl HN1.out ?o1 (by unfold maxLen; omega) (by omega) ?_)
          case o1 => and_intros <;> rfl
          intro b2 c2 w5 hown5 hg5 hloc5
          obtain ⟨hst5, hQ5, hNN5, hCh5⟩ := HQ.out.appended HNN4.out (r := 1) (by omega) HEv.out (o := .cells #[.string ⟨#[]⟩, .string ⟨#[]⟩, .int .i32 0, .string ⟨#[]⟩, .int .u64 0, .int .i64 0, .pointer none, .slice none 0 0, .int .i32 0] 59) hown5 hg5 (by simpa using hloc5)
          have x1 := cell_block (i := 2) hst5 (stV_get N _ (sl0 (N + 11)) (r := 1) (by omega))
          have x2 := frozen_block (i := 2) hst5
          have HFin := hid (HD.out.next hd hc' hQ5 (Ch.below HBel.out hCh5 (by have := HQ.out.sz; omega) (fun q hq => hq)))
          clear hown5 hg5 hloc5 hst5 hQ5 hNN5 hCh5 HI1 HN1 hz1 HQ HBel HNN4 HEv HD
          go_wp2
          go_roundg (gk - 1)
          case measure => omega
          case rel => exact ⟨i + 1, by omega, by go_num, HFin.out⟩
      · obtain rfl : i = n0 := by omega
        have HX := hid hD
        clear hD
        go_wp2_with fail
        go_meet
        exact ⟨V, L, C, DO, c, HX.out⟩
  case rest =>
  clear HD
  obtain ⟨V, L, C, DO, c, hD⟩ := hcut
  have HD := hid (show ∃ V L C c, D2 N w dl zl n0 0 V L C DO c wc from ⟨V, L, C, c, hD.start2 HT0.out.len (by omega)⟩)
  clear hD
  obtain ⟨nh, hnh⟩ : ∃ nh : Nat, nh = if n0 = 0 then 0 else n1 := ⟨_, rfl⟩
  go_upto_if 109 with fail
  go_cut [18] from 107 to 111 (fun s18 wx => s18 = .int .i64 (nh : Int) ∧ ∃ V L C c, D2 N w dl zl n0 0 V L C DO c wx)
  case first =>
    rename_i K0 aK J0 K1 aJ aM
    clear aK K0
    clear_value *
    as_aux_lemma =>
      have HNh : Hid ((n0 = 0 ∧ nh = 0) ∨ (0 < n0 ∧ nh = n1)) := by
        show (n0 = 0 ∧ nh = 0) ∨ (0 < n0 ∧ nh = n1)
        split at hnh <;> omega
      clear hnh
      go_wp2_with fail
      · go_meet
        have h9 := HNh.out
        have e9 : nh = n1 := by omega
        exact ⟨by rw [e9], HD.out⟩
      · go_meet
        have h9 := HNh.out
        have e9 : nh = 0 := by omega
        exact ⟨by rw [e9]; rfl, HD.out⟩
  case rest =>
  clear HD
  obtain ⟨rfl, hcut⟩ := hcut
  obtain ⟨hnl, hnp⟩ := nh_facts hnh
  have HNp := hid hnp
  have g1' : ¬ 256 < nh := by omega
  clear hnp hnh
  have HD := hid hcut
  clear hcut
  go_upto_block 2 with fail
  go_cut [] from 112 to 148 (fun wx => ∃ V L C c, D2 N w dl zl n0 nh V L C DO c wx)
  case first =>
    rename_i K0 aK J0 K1 aJ aM
    clear aK K0
    go_wp2_with fail
    go_loopg [19] nh (fun k s19 wx => ∃ j : Nat, j + k = nh ∧ s19 = .int .i64 j ∧ ∃ V L C c, D2 N w dl zl n0 j V L C DO c wx)
    case atStart => exact ⟨0, by omega, rfl, HD.out⟩
    case round =>
      obtain ⟨j, hjk, rfl, V, L, C, c, hD⟩ := hrel
      clear HD
      by_cases hlh : j < nh
      · obtain ⟨hnn, hp⟩ := HNp.out (by omega)
        have hlt : j < n1 := by omega
        clear hnn
        obtain ⟨z, hz⟩ : ∃ z, zl[j]? = some z := ⟨zl[j]'(by rw [HT1.out.len]; exact hlt), List.getElem?_eq_getElem _⟩
        obtain ⟨ad, had, hab, hac⟩ := HT1.out.cell j z hz
        have hz256 := HT1.out.le z (List.mem_of_getElem? hz)
        subst had
        obtain ⟨o, ho⟩ : ∃ o : Nat, z % n0 = o := ⟨_, rfl⟩
        obtain ⟨hoi, _, hmod, _, htm, hwz, hwr, _, _, hi0⟩ := small_facts hp g0 hz256 ho
        obtain ⟨g, cap, hv0⟩ := hD.nn 2 (by omega)
        obtain ⟨gr, capr, hv1⟩ := hD.nn 3 (by omega)
        rw [hD.l2] at hv0
        rw [hD.l3] at hv1
        have HV0 := hid hv0
        have HV1 := hid hv1
        have HO := hid ho
        have hz0 : wr.cell? ⟨N + 20, 4, none⟩ = some (.slice (some ⟨g, 0, none⟩) j cap) := hD.q.at (r := 2) (by omega) hv0
        have hrow0 := (hD.q.alloc (.cells #[.string ⟨#[]⟩] 9)).row 2 (by omega)
        rw [hv0, hD.l2] at hrow0
        have HI0 : Hid ((wr.alloc (.cells #[.string ⟨#[]⟩] 9)).ownsRow 0 9 1 (.slice (some ⟨g, 0, none⟩) j cap) j (C 2)) := hrow0
        have HN0 := hid (news_at wr #[.string ⟨#[]⟩] 9 [.string ⟨#[]⟩] wr.heap.size rfl rfl)
        have HD := hid hD
        clear hrow0 hD hv0 hv1 ho
        go_wp2_with (at_builtin; refine wpList_app _ rfl (.tmp 122) (.tmp 123) 22 rfl 9 i9 _ 1 16 Yba.underlying22 hi9 hz9 hs9 hb9 rfl (by decide) g j cap (C 2) rfl HI0.out ⟨wr.heap.size, 0, none⟩ 1 1 [.string ⟨#[]⟩] (by decide) rfl rfl HN0.out (by intro u hu; simp at hu; subst hu; rfl) (by unfold maxLen; omega) (by omega) ?_)
        intro b1 c1 w3 hown3 hg3 hloc3
        obtain ⟨hst3, hQ3, hNN3, hCh3⟩ := HD.out.q.appended HD.out.nn (r := 2) (by omega) (by rw [HD.out.l2]; exact HV0.out) (o := .cells #[.string ⟨#[]⟩] 9) hown3 hg3 (by simpa using hloc3)
        have x1 := cell_block (i := 4) hst3 (stV_get N V (sl0 (N + 11)) (r := 2) (by omega))
        have x2 := frozen_block (i := 4) hst3
        have HQ3 := hid hQ3
        have HNN3 := hid hNN3
        have HB3 : Hid (Below N w (w3.setCell ⟨N + 20, ci 2, none⟩ (.slice (some ⟨b1, 0, none⟩) (j + 1) c1))) := Ch.below HD.out.bel hCh3 (by have := HD.out.q.sz; omega) (fun q hq => hq)
        clear hown3 hg3 hloc3 hst3 hQ3 hNN3 hCh3 HI0 HN0 hz0
        go_upto_region 20 with fail
        obtain ⟨W4, hW4⟩ : ∃ W4, W4 = w3.setCell ⟨N + 20, 4, none⟩ (.slice (some ⟨b1, 0, none⟩) (j + 1) c1) := ⟨_, rfl⟩
        rw [← hW4]
        have hQ4 : Q N (upV V 2 (.slice (some ⟨b1, 0, none⟩) (j + 1) c1)) (upV L 2 (j + 1)) (upV C 2 (C 2 ++ [.string ⟨#[]⟩])) (sl0 (N + 11)) DO (.map []) (fun _ => []) (fun _ => .slice none 0 0) c W4 := by rw [hW4]; exact HQ3.out
        have hB4 : Below N w W4 := by rw [hW4]; exact HB3.out
        clear HQ3 HB3 x1 x2 hW4
        have hz1 : W4.cell? ⟨N + 20, 5, none⟩ = some (.slice (some ⟨gr, 0, none⟩) j capr) := hQ4.at (r := 3) (by omega) (by show V 3 = _; exact HV1.out)
        have hz2 : W4.cell? (ad.add j) = some (.int .u8 (z : Int)) := (hB4.cell (p := ad.add j) (by rw [addB, HNN.out]; exact hab)).trans hac
        have ev : upV V 2 (.slice (some ⟨b1, 0, none⟩) (j + 1) c1) 3 = .slice (some ⟨gr, 0, none⟩) (upV L 2 (j + 1) 3) capr := by show V 3 = .slice _ (L 3) _; rw [HD.out.l3]; exact HV1.out
        have hrow1 := (hQ4.alloc (.cells #[.int .i32 (o : Int), .string ⟨#[]⟩, .int .i32 0, .int .u8 0, .map none, .map none] 64)).row 3 (by omega)
        have el : upV L 2 (j + 1) 3 = j := HD.out.l3
        rw [ev, el] at hrow1
        have HI1 : Hid ((W4.alloc (.cells #[.int .i32 (o : Int), .string ⟨#[]⟩, .int .i32 0, .int .u8 0, .map none, .map none] 64)).drew.ownsRow 0 64 6 (.slice (some ⟨gr, 0, none⟩) j capr) j (C 3)) := hrow1
        have HN1 : Hid (∀ x u, (hC1 o)[x]? = some u → (W4.alloc (.cells #[.int .i32 (o : Int), .string ⟨#[]⟩, .int .i32 0, .int .u8 0, .map none, .map none] 64)).drew.cell? ((⟨W4.heap.size, 0, none⟩ : Addr).add x) = some u) := news_at W4 #[.int .i32 (o : Int), .string ⟨#[]⟩, .int .i32 0, .int .u8 0, .map none, .map none] 64 _ W4.heap.size rfl rfl
        have HQ := hid hQ4
        have HBel := hid hB4
        have HEv := hid ev
        have lt5 : N + 20 < W4.heap.size := lt_block hQ4.st
        have lt6 : ad.block < W4.heap.size := by have := hB4.size; have e := HNN.out; have := hQ4.sz; omega
        clear hrow1 hQ4 hB4 ev el
        go_region_law (refine step_app rfl (.tmp 133) (.tmp 144) 34 rfl 64 i64 _ 6 48 Yba.underlying34 hi64 hz64 hs64 hb64 rfl (by decide) gr j capr (C 3) (by simp [Act.eval, Act.put]) HI1.out ⟨W4.heap.size, 0, none⟩ 1 1 (hC1 o) (by decide) (by simp [Act.eval, Act.put]) rfl HN1.out (by intro u hu; simp [hC1] at hu; rcases hu with rfl | rfl | rfl | rfl | rfl <;> rfl) (by unfold maxLen; omega) (by omega) ?_; intro b2 c2 w5 hown5 hg5 hloc5; have HA := HQ.out.appended HNN3.out (r := 3) (by omega) HEv.out (o := .cells #[.int .i32 (o : Int), .string ⟨#[]⟩, .int .i32 0, .int .u8 0, .map none, .map none] 64) hown5 (gb_undrew hg5) (by simpa using hloc5); have x1 := cell_block (i := 5) HA.1 (stV_get N _ (sl0 (N + 11)) (r := 3) (by omega)); have x2 := frozen_block (i := 5) HA.1; have HFin := hid (HD.out.next hz (by rw [HO.out]; exact HA.2.1) (Ch.below HBel.out HA.2.2.2 (by have := HQ.out.sz; omega) (fun q hq => hq))); clear HA hown5 hg5 hloc5)
        all_goals (
          go_wp2
          go_roundg (gk - 1)
          case measure => omega
          case rel => exact ⟨j + 1, by omega, by go_num, HFin.out⟩)
      · obtain rfl : j = nh := by omega
        have HX := hid hD
        clear hD
        go_wp2_with fail
        go_meet
        exact ⟨V, L, C, c, HX.out⟩
  case rest =>
  clear HD
  obtain ⟨V, L, C, c, hD⟩ := hcut
  obtain ⟨hs, hhs⟩ : ∃ hs : List Nat, hs = (zl.take nh).map (· % n0) := ⟨_, rfl⟩
  have hsl : hs.length = nh := by rw [hhs, List.length_map, List.length_take, HT1.out.len]; omega
  have HD := hid (show ∃ V L C ur DU c, D3 N w dl hs ul 0 V L C ur DO DU c _ from ⟨_, _, _, _, _, _, by rw [hhs]; exact hD.start3' HT0.out.len (by rw [HT1.out.len]; exact hnl)⟩)
  have HHs := hid hhs
  clear hD hhs
  go_upto_block 4 with fail
  go_cut [] from 151 to 200 (fun wx => ∃ V L C ur DU c, D3 N w dl hs ul n2 V L C ur DO DU c wx)
  case first =>
    rename_i K0 aK J0 K1 aJ aM
    clear aK K0
    clear_value *
    as_aux_lemma =>
      go_wp2_with fail
      go_loopg [151] n2 (fun k s151 wx => ∃ t : Nat, t + k = n2 ∧ s151 = .int .i64 t ∧ ∃ V L C ur DU c, D3 N w dl hs ul t V L C ur DO DU c wx)
      case atStart => exact ⟨0, by omega, rfl, HD.out⟩
      case round =>
        obtain ⟨t, htk, rfl, V, L, C, ur, DU, c, hD⟩ := hrel
        clear HD
        by_cases hlt3 : t < n2
        · obtain ⟨d, hd⟩ : ∃ d, ul[t]? = some d := ⟨ul[t]'(by rw [HT2.out.len]; exact hlt3), List.getElem?_eq_getElem _⟩
          obtain ⟨ad, had, hab, hac⟩ := HT2.out.cell t d hd
          subst had
          have hdl : d.length ≤ maxLen := HT2.out.le d (List.mem_of_getElem? hd)
          have hss : (ByteArray.mk d.toArray).size ≤ maxLen := by show d.toArray.size ≤ _; simpa using hdl
          have r0 : wr.cell? (ad.add t) = some (.string ⟨d.toArray⟩) := (hD.bel.cell (p := ad.add t) (by rw [addB, HNN.out]; exact hab)).trans hac
          have s0 : wr.cell? ⟨N + 20, 6, none⟩ = some (.map (some (N + 9))) := cell_block hD.q.st rfl
          have hiw : (Lit.int .i32 (t : Int)).wf = true := WalkArith.wf_i32 (by omega)
          have hwr : IntKind.i32.wrap (t : Int) = t := by rw [IntKind.wrap_i32]; omega
          have hmU := hD.q.mU
          have hcc := hD.cc
          have HD := hid hD
          obtain ⟨g, cap, hv0⟩ := hD.nn 4 (by omega)
          rw [hD.l4] at hv0
          have HV0 := hid hv0
          obtain ⟨au, cu, hur⟩ := hD.ur
          have HUr := hid hur
          have htk2 : ul.take (t + 1) = ul.take t ++ [d] := by rw [List.take_add_one, hd]; rfl
          have htl : (ul.take t).length = t := by rw [List.length_take, HT2.out.len]; omega
          obtain ⟨w2, hrun, hq2, hch2⟩ := hD.q.putU (by unfold maxLen; omega) hss hiw
          have HQ2 := hid hq2
          have HB2 : Hid (Below N w w2) := Ch.below hD.bel hch2 (by have := hD.q.sz; omega) (fun q hq => hq)
          have hhas := hD.num.has d
          have ehd : (ByteArray.mk d.toArray).data.toList = d := by simp
          clear hq2 hch2 hv0 hur
          cases hh : Maps.has DU (.string (ByteArray.mk d.toArray).data.toList) with
          | true =>
            have HQ1 : Hid (∃ DU' c', Q N V L C ur DO DU' (fun _ => []) (fun _ => .slice none 0 0) c' wr ∧ c' ≤ 256 + (t + 1) ∧ Below N w wr ∧ Num DU' (ul.take (t + 1))) := ⟨DU, c, hD.q, by omega, hD.bel, by rw [htk2]; rw [ehd, hhas] at hh; exact hD.num.old (by simpa using hh)⟩
            clear hD HQ2 HB2 hrun hhas ehd htk2 htl
            go_upto_region 27 with (at_lookup; refine wpList_lookup_own_ok_int _ rfl _ _ 37 rfl 9 51 .i32 law9 Yba.underlying37 Yba.underlying51 (zero51 _) (N + 9) c DU rfl hmU _ _ rfl (keyOf_string_mk Yba.underlying9 hss) ?_; intro cc hat hwc)
            obtain ⟨DU', c', hQ, hc', hbel, hnum⟩ := HQ1.out
            have hz0 : wr.cell? ⟨N + 20, 7, none⟩ = some (.slice (some ⟨g, 0, none⟩) t cap) := hQ.at (r := 4) (by omega) HV0.out
            have hrow0 := (hQ.alloc (.cells #[.string ⟨d.toArray⟩] 9)).row 4 (by omega)
            rw [HV0.out, HD.out.l4] at hrow0
            have HI0 : Hid ((wr.alloc (.cells #[.string ⟨d.toArray⟩] 9)).ownsRow 0 9 1 (.slice (some ⟨g, 0, none⟩) t cap) t (C 4)) := hrow0
            have HN0 := hid (news_at wr #[.string ⟨d.toArray⟩] 9 [.string ⟨d.toArray⟩] wr.heap.size rfl rfl)
            have HQ := hid hQ
            have HBel := hid hbel
            have HNum := hid hnum
            clear hrow0 hQ hbel hnum hmU hh HQ1 hat hwc r0 s0
            go_wp2_with (at_builtin; refine wpList_app _ rfl (.tmp 181) (.tmp 183) 22 rfl 9 i9 _ 1 16 Yba.underlying22 hi9 hz9 hs9 hb9 rfl (by decide) g t cap (C 4) rfl HI0.out ⟨wr.heap.size, 0, none⟩ 1 1 [.string ⟨d.toArray⟩] (by decide) rfl rfl HN0.out (by intro u hu; simp at hu; subst hu; rfl) (by unfold maxLen; omega) (by omega) ?_)
            intro b1 c1 w3 hown3 hg3 hloc3
            obtain ⟨hst3, hQ3, hNN3, hCh3⟩ := HQ.out.appended HD.out.nn (r := 4) (by omega) (by rw [HD.out.l4]; exact HV0.out) (o := .cells #[.string ⟨d.toArray⟩] 9) hown3 hg3 (by simpa using hloc3)
            have x1 := cell_block (i := 7) hst3 (stV_get N V ur (r := 4) (by omega))
            have x2 := frozen_block (i := 7) hst3
            have HQ3 := hid hQ3
            have HB3 : Hid (Below N w (w3.setCell ⟨N + 20, ci 4, none⟩ (.slice (some ⟨b1, 0, none⟩) (t + 1) c1))) := Ch.below HBel.out hCh3 (by have := HQ.out.sz; omega) (fun q hq => hq)
            clear hown3 hg3 hloc3 hst3 hQ3 hNN3 hCh3 HI0 HN0 hz0
            go_upto_region 28 with fail
            obtain ⟨W4, hW4⟩ : ∃ W4, W4 = w3.setCell ⟨N + 20, 7, none⟩ (.slice (some ⟨b1, 0, none⟩) (t + 1) c1) := ⟨_, rfl⟩
            rw [← hW4]
            have hQ4 : Q N (upV V 4 (.slice (some ⟨b1, 0, none⟩) (t + 1) c1)) (upV L 4 (t + 1)) (upV C 4 (C 4 ++ [.string ⟨d.toArray⟩])) ur DO DU' (fun _ => []) (fun _ => .slice none 0 0) c' W4 := by rw [hW4]; exact HQ3.out
            have hB4 : Below N w W4 := by rw [hW4]; exact HB3.out
            clear HQ3 HB3 x1 x2 hW4 HQ HBel
            have hz1 : W4.cell? ⟨N + 20, 8, none⟩ = some (.slice (some au) t cu) := by rw [← HUr.out]; exact cell_block hQ4.st rfl
            have HQ := hid hQ4
            have HBel := hid hB4
            clear hQ4 hB4
            go_wp2_with (at_builtin; refine wpList_app0 _ rfl (.tmp 193) (.tmp 195) 38 rfl 66 i66 _ Yba.underlying38 hi66 hz66 hs66 hb66 rfl au t cu ⟨W4.heap.size, 0, none⟩ 1 1 rfl rfl (by omega) ?_)
            intro a5 c5 w5 hg5
            have hst5 : w5.heap[N + 20]? = some (.cells (stV N _ ur) 49 (0, 0)) := (hg5.block (N + 20) (by have := HQ.out.sz; simp; omega) (by simp)).trans (HQ.out.alloc (.cells #[] 66)).st
            have hk5 : Ch W4 w5 (fun _ => False) := (((Ch.refl W4 (fun _ => False)).alloc (.cells #[] 66)).trans (Ch.of_none hg5 (fun _ => False))).mono (fun q hq => hq.elim id id)
            have hQ5 := (HQ.out.same hk5).setUr (.slice (some a5) (t + 1) c5)
            have x1 := cell_block (i := 8) hst5 (show (stV N _ ur)[8]? = some ur from rfl)
            have x2 := frozen_block (i := 8) hst5
            have HFin := hid (HD.out.next hc' HNum.out hQ5.1 (Ch.below (Ch.below HBel.out hk5 (by have := HQ.out.sz; omega) (fun q hq => hq.elim)) hQ5.2 (by have := HQ.out.sz; have := hk5.size; omega) (fun q hq => hq)))
            clear hg5 hst5 hk5 hQ5 hz1 HQ HBel HD HNum
            go_wp2
            go_roundg (gk - 1)
            case measure => omega
            case rel => exact ⟨t + 1, by omega, by go_num, HFin.out⟩
          | false =>
            have HQ1 : Hid (∃ DU' c', Q N V L C ur DO DU' (fun _ => []) (fun _ => .slice none 0 0) c' w2 ∧ c' ≤ 256 + (t + 1) ∧ Below N w w2 ∧ Num DU' (ul.take (t + 1))) := ⟨_, c + 1, HQ2.out, by omega, HB2.out, by
              rw [htk2]
              rw [ehd, hhas] at hh
              have hn := hD.num.new (x := d) (by simpa using hh)
              rw [htl] at hn
              exact hn⟩
            clear hD HQ2 HB2 hhas ehd htk2 htl
            go_upto_region 27 with (at_lookup; refine wpList_lookup_own_ok_int _ rfl _ _ 37 rfl 9 51 .i32 law9 Yba.underlying37 Yba.underlying51 (zero51 _) (N + 9) c DU rfl hmU _ _ rfl (keyOf_string_mk Yba.underlying9 hss) ?_; intro cc hat hwc)
            obtain ⟨DU', c', hQ, hc', hbel, hnum⟩ := HQ1.out
            have hz0 : w2.cell? ⟨N + 20, 7, none⟩ = some (.slice (some ⟨g, 0, none⟩) t cap) := hQ.at (r := 4) (by omega) HV0.out
            have hrow0 := (hQ.alloc (.cells #[.string ⟨d.toArray⟩] 9)).row 4 (by omega)
            rw [HV0.out, HD.out.l4] at hrow0
            have HI0 : Hid ((w2.alloc (.cells #[.string ⟨d.toArray⟩] 9)).ownsRow 0 9 1 (.slice (some ⟨g, 0, none⟩) t cap) t (C 4)) := hrow0
            have HN0 := hid (news_at w2 #[.string ⟨d.toArray⟩] 9 [.string ⟨d.toArray⟩] w2.heap.size rfl rfl)
            have HQ := hid hQ
            have HBel := hid hbel
            have HNum := hid hnum
            clear hrow0 hQ hbel hnum hmU hh HQ1 hat hwc r0 s0
            go_wp2_with (at_builtin; refine wpList_app _ rfl (.tmp 181) (.tmp 183) 22 rfl 9 i9 _ 1 16 Yba.underlying22 hi9 hz9 hs9 hb9 rfl (by decide) g t cap (C 4) rfl HI0.out ⟨w2.heap.size, 0, none⟩ 1 1 [.string ⟨d.toArray⟩] (by decide) rfl rfl HN0.out (by intro u hu; simp at hu; subst hu; rfl) (by unfold maxLen; omega) (by omega) ?_)
            intro b1 c1 w3 hown3 hg3 hloc3
            obtain ⟨hst3, hQ3, hNN3, hCh3⟩ := HQ.out.appended HD.out.nn (r := 4) (by omega) (by rw [HD.out.l4]; exact HV0.out) (o := .cells #[.string ⟨d.toArray⟩] 9) hown3 hg3 (by simpa using hloc3)
            have x1 := cell_block (i := 7) hst3 (stV_get N V ur (r := 4) (by omega))
            have x2 := frozen_block (i := 7) hst3
            have HQ3 := hid hQ3
            have HB3 : Hid (Below N w (w3.setCell ⟨N + 20, ci 4, none⟩ (.slice (some ⟨b1, 0, none⟩) (t + 1) c1))) := Ch.below HBel.out hCh3 (by have := HQ.out.sz; omega) (fun q hq => hq)
            clear hown3 hg3 hloc3 hst3 hQ3 hNN3 hCh3 HI0 HN0 hz0
            go_upto_region 28 with fail
            obtain ⟨W4, hW4⟩ : ∃ W4, W4 = w3.setCell ⟨N + 20, 7, none⟩ (.slice (some ⟨b1, 0, none⟩) (t + 1) c1) := ⟨_, rfl⟩
            rw [← hW4]
            have hQ4 : Q N (upV V 4 (.slice (some ⟨b1, 0, none⟩) (t + 1) c1)) (upV L 4 (t + 1)) (upV C 4 (C 4 ++ [.string ⟨d.toArray⟩])) ur DO DU' (fun _ => []) (fun _ => .slice none 0 0) c' W4 := by rw [hW4]; exact HQ3.out
            have hB4 : Below N w W4 := by rw [hW4]; exact HB3.out
            clear HQ3 HB3 x1 x2 hW4 HQ HBel
            have hz1 : W4.cell? ⟨N + 20, 8, none⟩ = some (.slice (some au) t cu) := by rw [← HUr.out]; exact cell_block hQ4.st rfl
            have HQ := hid hQ4
            have HBel := hid hB4
            clear hQ4 hB4
            go_wp2_with (at_builtin; refine wpList_app0 _ rfl (.tmp 193) (.tmp 195) 38 rfl 66 i66 _ Yba.underlying38 hi66 hz66 hs66 hb66 rfl au t cu ⟨W4.heap.size, 0, none⟩ 1 1 rfl rfl (by omega) ?_)
            intro a5 c5 w5 hg5
            have hst5 : w5.heap[N + 20]? = some (.cells (stV N _ ur) 49 (0, 0)) := (hg5.block (N + 20) (by have := HQ.out.sz; simp; omega) (by simp)).trans (HQ.out.alloc (.cells #[] 66)).st
            have hk5 : Ch W4 w5 (fun _ => False) := (((Ch.refl W4 (fun _ => False)).alloc (.cells #[] 66)).trans (Ch.of_none hg5 (fun _ => False))).mono (fun q hq => hq.elim id id)
            have hQ5 := (HQ.out.same hk5).setUr (.slice (some a5) (t + 1) c5)
            have x1 := cell_block (i := 8) hst5 (show (stV N _ ur)[8]? = some ur from rfl)
            have x2 := frozen_block (i := 8) hst5
            have HFin := hid (HD.out.next hc' HNum.out hQ5.1 (Ch.below (Ch.below HBel.out hk5 (by have := HQ.out.sz; omega) (fun q hq => hq.elim)) hQ5.2 (by have := HQ.out.sz; have := hk5.size; omega) (fun q hq => hq)))
            clear hg5 hst5 hk5 hQ5 hz1 HQ HBel HD HNum
            go_wp2
            go_roundg (gk - 1)
            case measure => omega
            case rel => exact ⟨t + 1, by omega, by go_num, HFin.out⟩
        · obtain rfl : t = n2 := by omega
          have HX := hid hD
          clear hD
          go_wp2_with fail
          go_meet
          exact ⟨V, L, C, ur, DU, c, HX.out⟩
  case rest =>
  clear HD
  obtain ⟨V, L, C, ur, DU, c, hD⟩ := hcut
  have HD := hid (show ∃ F c, D4 N w dl hs ul pl n2 nh 0 V L C ur DO DU F c _ from ⟨_, _, hD.start4 HT2.out.len (by omega) pl n2 nh⟩)
  clear hD
  go_upto_block 6 with fail
  go_cut [] from 203 to 240 (fun wx => ∃ pe : List (Nat × Nat), E4 N w dl hs ul (gp pe n2 nh) wx ∧ (0 < n2 → 0 < nh → pe = pl) ∧ (n2 = 0 ∨ nh = 0 → pe = []))
  case first =>
    rename_i K0 aK J0 K1 aJ aM
    clear aK K0
    clear_value *
    as_aux_lemma =>
      go_wp2_with fail
      go_loopg [203] n3 (fun k s203 wx => ∃ m : Nat, m + k = n3 ∧ s203 = .int .i64 m ∧ (m = 0 ∨ (0 < n2 ∧ 0 < nh)) ∧ ∃ F c, D4 N w dl hs ul pl n2 nh m V L C ur DO DU F c wx)
      case atStart => exact ⟨0, by omega, rfl, .inl rfl, HD.out⟩
      case round =>
        obtain ⟨m, hmk, rfl, hm0, F, c, hD⟩ := hrel
        clear HD
        by_cases hlt4 : m < n3
        · by_cases hp2 : 0 < n2
          · by_cases hp1 : 0 < nh
            · clear hm0
              obtain ⟨⟨pu, ph⟩, hpm⟩ : ∃ p, pl[m]? = some p := ⟨pl[m]'(by rw [HT3.out.len]; exact hlt4), List.getElem?_eq_getElem _⟩
              obtain ⟨ad, had, hab, hau, hah⟩ := HT3.out.cell m pu ph hpm
              obtain ⟨hpu, hph⟩ := HT3.out.le _ (List.mem_of_getElem? hpm)
              subst had
              have r0 : wr.cell? (ad.add (m * 2)) = some (.int .u8 (pu : Int)) := (hD.bel.cell (p := ad.add (m * 2)) (by rw [addB, HNN.out]; exact hab)).trans hau
              have r1 : wr.cell? (ad.add (m * 2 + 1)) = some (.int .u8 (ph : Int)) := (hD.bel.cell (p := ad.add (m * 2 + 1)) (by rw [addB, HNN.out]; exact hab)).trans hah
              have r2 : wr.cell? ⟨(ad.add (m * 2)).block, (ad.add (m * 2)).off + 1, none⟩ = some (.int .u8 (ph : Int)) := by rw [add_succ]; exact r1
              have HD := hid hD
              have s13 : wr.cell? ⟨N + 20, 13, none⟩ = some (.map (some (N + 17))) := cell_block hD.q.st rfl
              clear r1
              obtain ⟨u0, hu0⟩ : ∃ u0 : Nat, pu % n2 = u0 := ⟨_, rfl⟩
              obtain ⟨y0, hy0⟩ : ∃ y0 : Nat, ph % nh = y0 := ⟨_, rfl⟩
              obtain ⟨hu0t, _, hmu, hw32, _, _, _, huw, zt, zt'⟩ := small_facts hp2 g2 hpu hu0
              obtain ⟨hy0j, _, _, _, htm, hwp, hwy, _, zj, zj'⟩ := small_facts hp1 g1' hph hy0
              have HU0 := hid hu0
              have HY0 := hid hy0
              clear hu0 hy0
              go_upto_region 35 with fail
              obtain ⟨W, hW⟩ : ∃ W, W = wr.alloc (.cells #[.int .u8 (pu : Int), .int .u8 (ph : Int)] 68) := ⟨_, rfl⟩
              rw [← hW]
              have hQW : Q N V L C ur DO DU (gp (pl.take m) n2 nh) F c W := by rw [hW]; exact HD.out.q.alloc _
              have hBox : W.heap[wr.heap.size]? = some (.cells #[.int .u8 (pu : Int), .int .u8 (ph : Int)] 68 (0, 0)) := by rw [hW]; exact heap_alloc_last _ _
              have hBW : Below N w W := by rw [hW]; exact HD.out.bel.alloc (by have := HD.out.q.sz; omega) _
              have z1 : W.cell? ⟨N + 20, 13, none⟩ = some (.map (some (N + 17))) := cell_block hQW.st rfl
              have z2 : W.cell? ⟨wr.heap.size, 1, none⟩ = some (.int .u8 (ph : Int)) := cell_block hBox rfl
              have hlk1 := hQW.drew.look u0 huw (zero56 _)
              have hQA := hQW.alloc (.cells #[.int .i32 (y0 : Int)] 57)
              have hlk2 := hQA.drew.look u0 huw (zero56 _)
              have HI : Hid ((W.alloc (.cells #[.int .i32 (y0 : Int)] 57)).drew.ownsRow 0 57 1 (F u0) (gp (pl.take m) n2 nh u0).length (gC (gp (pl.take m) n2 nh u0))) := hQA.gr u0
              have HN : Hid (∀ x u, ([.int .i32 (y0 : Int)] : List Value)[x]? = some u → (W.alloc (.cells #[.int .i32 (y0 : Int)] 57)).drew.cell? ((⟨W.heap.size, 0, none⟩ : Addr).add x) = some u) := news_at W #[.int .i32 (y0 : Int)] 57 _ W.heap.size rfl rfl
              have hgl : (gp (pl.take m) n2 nh u0).length ≤ 1024 := by have h1 := gp_length (pl.take m) n2 nh u0; have h2 := HT3.out.len; rw [List.length_take] at h1; omega
              have HQA := hid hQA
              have HBx := hid (alloc_block (o := .cells #[.int .i32 (y0 : Int)] 57) hBox)
              have HBW := hid hBW
              have hc9 : c < maxLen := by have := HD.out.cc; unfold maxLen; omega
              have lt1 : N + 20 < W.heap.size := lt_block hQW.st
              have lt2 : wr.heap.size < W.heap.size := lt_block hBox
              clear hW hQW hBox hBW hQA hD r0 r2 s13
              go_region_held3 (fun w' => w'.cell? ⟨N + 20, 13, none⟩ = some (.map (some (N + 17))) ∧ w'.cell? ⟨wr.heap.size, 1, none⟩ = some (.int .u8 (ph : Int))) (refine ⟨?_, ?_⟩ <;> (repeat (first | assumption | refine keep_drew ?_ | refine keep_alloc _ ?_)))
                (first | (refine step_own rfl (.tmp 231) (.tmp 238) 56 rfl 57 i57 _ 1 4 Yba.underlying56 hi57 hz57 hs57 hb57 rfl (by decide) 0 (gp (pl.take m) n2 nh u0).length (F u0) (gC (gp (pl.take m) n2 nh u0)) (by simp [Act.eval, Act.put]) HI.out ⟨W.heap.size, 0, none⟩ 1 1 [.int .i32 (y0 : Int)] (by decide) (by simp [Act.eval, Act.put]) rfl HN.out (by intro u hu; simp at hu; subst hu; rfl) (by unfold maxLen; omega) (by omega) (Nat.zero_le _) ?_
                          intro b5 c5 w5 hown5 hg5 hloc5
                          obtain ⟨w6, hrun6, hQ6, hCh6, k5a, k5b, k6a, k6b⟩ := HQA.out.group2 hc9 u0 huw y0 (w2 := w5) (g := b5) (n := (gp (pl.take m) n2 nh u0).length + 1) (cap := c5) (by simpa [gC] using hown5) (gb_undrew hg5) (by simpa using hloc5) HBx.out
                          have HF6 := hid (HD.out.next hpm HU0.out HY0.out (HBW.out.alloc (by have := HD.out.q.sz; omega) _) (by have := HQA.out.sz; omega) hQ6 hCh6)
                          clear hown5 hg5 hloc5 hQ6 hCh6))
              all_goals (
                go_wp2
                go_roundg (gk - 1)
                case measure => omega
                case rel => exact ⟨m + 1, by omega, by go_num, .inr ⟨hp2, hp1⟩, HF6.out⟩)
            · have hm00 : m = 0 := by omega
              have zt := zb_false hp2
              have zj := zb_true hp1
              obtain ⟨⟨pu, ph⟩, hpm⟩ : ∃ p, pl[m]? = some p := ⟨pl[m]'(by rw [HT3.out.len]; exact hlt4), List.getElem?_eq_getElem _⟩
              obtain ⟨ad, had, hab, hau, hah⟩ := HT3.out.cell m pu ph hpm
              obtain ⟨hpu, hph⟩ := HT3.out.le _ (List.mem_of_getElem? hpm)
              subst had
              have r0 : wr.cell? (ad.add (m * 2)) = some (.int .u8 (pu : Int)) := (hD.bel.cell (p := ad.add (m * 2)) (by rw [addB, HNN.out]; exact hab)).trans hau
              have r1 : wr.cell? (ad.add (m * 2 + 1)) = some (.int .u8 (ph : Int)) := (hD.bel.cell (p := ad.add (m * 2 + 1)) (by rw [addB, HNN.out]; exact hab)).trans hah
              have r2 : wr.cell? ⟨(ad.add (m * 2)).block, (ad.add (m * 2)).off + 1, none⟩ = some (.int .u8 (ph : Int)) := by rw [add_succ]; exact r1
              have HX := hid (hD.fin.alloc (.cells #[.int .u8 (pu : Int), .int .u8 (ph : Int)] 68))
              have HDg : Hid (n2 = 0 ∨ nh = 0) := by show n2 = 0 ∨ nh = 0; omega
              have HM0 := hid hm00
              clear hD hp2 hm0 hm00 r1 hpm
              try clear hp1
              go_wp2_with fail
              go_meet
              exact ⟨pl.take m, HX.out, fun h1 h2 => absurd HDg.out (by omega), fun _ => by rw [HM0.out]; rfl⟩
          · have hm00 : m = 0 := by omega
            have zt := zb_true hp2
            obtain ⟨⟨pu, ph⟩, hpm⟩ : ∃ p, pl[m]? = some p := ⟨pl[m]'(by rw [HT3.out.len]; exact hlt4), List.getElem?_eq_getElem _⟩
            obtain ⟨ad, had, hab, hau, hah⟩ := HT3.out.cell m pu ph hpm
            obtain ⟨hpu, hph⟩ := HT3.out.le _ (List.mem_of_getElem? hpm)
            subst had
            have r0 : wr.cell? (ad.add (m * 2)) = some (.int .u8 (pu : Int)) := (hD.bel.cell (p := ad.add (m * 2)) (by rw [addB, HNN.out]; exact hab)).trans hau
            have r1 : wr.cell? (ad.add (m * 2 + 1)) = some (.int .u8 (ph : Int)) := (hD.bel.cell (p := ad.add (m * 2 + 1)) (by rw [addB, HNN.out]; exact hab)).trans hah
            have r2 : wr.cell? ⟨(ad.add (m * 2)).block, (ad.add (m * 2)).off + 1, none⟩ = some (.int .u8 (ph : Int)) := by rw [add_succ]; exact r1
            have HX := hid (hD.fin.alloc (.cells #[.int .u8 (pu : Int), .int .u8 (ph : Int)] 68))
            have HDg : Hid (n2 = 0 ∨ nh = 0) := by show n2 = 0 ∨ nh = 0; omega
            have HM0 := hid hm00
            clear hD hp2 hm0 hm00 r1 hpm
            try clear hp1
            go_wp2_with fail
            go_meet
            exact ⟨pl.take m, HX.out, fun h1 h2 => absurd HDg.out (by omega), fun _ => by rw [HM0.out]; rfl⟩
        · have HE : Hid (pl.take m = pl) := List.take_of_length_le (by rw [HT3.out.len]; omega)
          have HM : Hid (n2 = 0 ∨ nh = 0 → pl = []) := by
            intro h
            rcases hm0 with rfl | ⟨h1, h2⟩
            · exact List.length_eq_zero_iff.mp (by rw [HT3.out.len]; omega)
            · omega
          have HX := hid hD.fin
          clear hD hm0
          go_wp2_with fail
          go_meet
          exact ⟨pl.take m, HX.out, fun _ _ => HE.out, fun h => by rw [HE.out]; exact HM.out h⟩
  case rest =>
  clear HD
  obtain ⟨pe, hE, hp1, hp2⟩ := hcut
  have hsz2 : hs.length ≤ 256 := by omega
  have HOrg := hid (fun (wx : World) (us : List UInt8) (hus : us.length ≤ maxLen) (h : E4 N w dl hs ul (gp pe n2 nh) wx) => h.orgs HT0.out.le (fun u x hx => by rw [hsl]; exact gp_lt (fun e => hp2 (.inr e)) u x hx) (hs_lt HHs.out (fun h => (HNp.out h).2) HT0.out.len) (by rw [HT0.out.len]; omega) hsz2 (by rw [HT2.out.len]; omega) (fun u => Nat.le_trans (gp_length _ _ _ u) (Nat.le_trans (pe_length hp1 hp2) (by rw [HT3.out.len]; omega))) us hus)
  have HP1 := hid hp1
  have HP2 := hid hp2
  have HD := hid hE
  clear hE hp1 hp2 hsz2
  go_upto_region 38 with fail
  go_cut [249] from 242 to 249 (fun s249 wx => ∃ b : Bool, s249 = .bool b ∧ (b = true → 0 < n2) ∧ E4 N w dl hs ul (gp pe n2 nh) wx)
  case first =>
    rename_i K0 aK J0 K1 aJ aM
    clear aK K0
    clear_value *
    as_aux_lemma =>
      by_cases hz : 0 < n2
      · have hz' : (0 : Int) < (n2 : Int) := by omega
        go_wp2_with fail
        go_meet
        exact ⟨_, rfl, fun _ => hz, HD.out⟩
      · have hz' : ¬ (0 : Int) < (n2 : Int) := by omega
        have hz2 : decide ((0 : Int) < (n2 : Int)) = false := decide_eq_false hz'
        go_wp2_with fail
        go_meet
        exact ⟨false, rfl, fun h => (by cases h), HD.out⟩
  case rest =>
  clear HD
  obtain ⟨b, rfl, hb, hE⟩ := hcut
  have HD := hid hE
  have HB := hid hb
  clear hE hb
  go_upto_if 249 with fail
  go_cut [27] from 250 to 257 (fun s27 wx => ∃ us : List UInt8, s27 = .string ⟨us.toArray⟩ ∧ us.length ≤ maxLen ∧ E4 N w dl hs ul (gp pe n2 nh) wx)
  case first =>
    rename_i K0 aK J0 K1 aJ aM
    clear aK K0
    clear_value *
    as_aux_lemma =>
      cases b with
      | false =>
        go_wp2_with fail
        go_meet
        exact ⟨ql, rfl, HQl.out, HD.out⟩
      | true =>
        have hn := HB.out rfl
        obtain ⟨u0, hu0⟩ : ∃ u0 : Nat, sel % n2 = u0 := ⟨_, rfl⟩
        obtain ⟨hu0t, _, hmu, _, htm, hws, _, _, zt, zt'⟩ := small_facts hn g2 HSel.out hu0
        obtain ⟨d, hd⟩ : ∃ d, ul[u0]? = some d := ⟨ul[u0]'(by rw [HT2.out.len]; exact hu0t), List.getElem?_eq_getElem _⟩
        obtain ⟨ad, had, hab, hac⟩ := HT2.out.cell u0 d hd
        have HDl : Hid (d.length ≤ maxLen) := HT2.out.le d (List.mem_of_getElem? hd)
        subst had
        have r0 : wc.cell? (ad.add u0) = some (.string ⟨d.toArray⟩) := (HD.out.bel.cell (p := ad.add u0) (by rw [addB, HNN.out]; exact hab)).trans hac
        clear hu0 hd hab hac
        go_wp2_with fail
        go_meet
        exact ⟨d, rfl, HDl.out, HD.out⟩
  case rest =>
  clear HD HB
  obtain ⟨us, rfl, hus, hE⟩ := hcut
  have HD := hid hE
  have HUs := hid hus
  clear hE hus
  go_upto_region 41 with (go_at_call 6; refine (HOrg.out _ us HUs.out HD.out).mono ?_; rintro e w5 ⟨g, cap, m9, rfl, hm9, hG5⟩)
  obtain ⟨xs, hxs⟩ : ∃ xs, xs = XS dl hs ul (gp pe n2 nh) us := ⟨_, rfl⟩
  rw [← hxs] at hm9 hG5
  have HXs := hid hxs
  have HM9 := hid hm9
  have HG := hid hG5
  clear hxs hm9 hG5 HD HOrg
  go_upto_block 8 with fail
  go_cut [29] from 261 to 273 (fun s29 wx => ∃ ui : Int, s29 = .int .i64 ui ∧ UI us ul ui ∧ G5 N w g cap xs wx)
  case first =>
    rename_i K0 aK J0 K1 aJ aM
    clear aK K0
    clear_value *
    as_aux_lemma =>
      go_wp2_with fail
      go_loopg [29, 30] n2 (fun k s29 s30 wx => ∃ j : Nat, j + k = n2 ∧ s29 = .int .i64 (-1) ∧ s30 = .int .i64 j ∧ (∀ t y, t < j → ul[t]? = some y → y ≠ us) ∧ G5 N w g cap xs wx)
      case atStart => exact ⟨0, by omega, rfl, rfl, fun t y ht => by omega, HG.out⟩
      case round =>
        obtain ⟨j, hjk, rfl, rfl, hbf, hG5⟩ := hrel
        clear HG
        have HBf := hid hbf
        have HG := hid hG5
        clear hbf
        by_cases hlt : j < n2
        · obtain ⟨d, hd⟩ : ∃ d, ul[j]? = some d := ⟨ul[j]'(by rw [HT2.out.len]; exact hlt), List.getElem?_eq_getElem _⟩
          obtain ⟨ad, had, hab, hac⟩ := HT2.out.cell j d hd
          subst had
          have r0 : wr.cell? (ad.add j) = some (.string ⟨d.toArray⟩) := (hG5.bel.cell (p := ad.add j) (by rw [addB, HNN.out]; exact hab)).trans hac
          have HDd := hid hd
          clear hG5 hd hab hac
          by_cases e1 : d = us
          · have HFin : Hid (UI us ul (j : Int)) := by
              obtain ⟨h1, h2⟩ := ix_first (us := us) (by rw [← e1]; exact HDd.out) HBf.out
              exact .inl ⟨h1, by rw [h2]⟩
            have e1' : (d == us) = true := by simpa using e1
            clear e1
            go_wp2_with fail
            go_meet
            exact ⟨(j : Int), rfl, HFin.out, HG.out⟩
          · have e1' : (d == us) = false := by simpa using e1
            have HFin : Hid (∀ t y, t < j + 1 → ul[t]? = some y → y ≠ us) := by
              intro t y ht hy
              by_cases et : t = j
              · subst et
                have := HDd.out
                rw [this] at hy
                cases hy
                exact e1
              · exact HBf.out t y (by omega) hy
            go_wp2_with fail
            go_roundg (gk - 1)
            case measure => omega
            case rel => exact ⟨j + 1, by omega, rfl, by go_num, HFin.out, HG.out⟩
        · clear hG5
          have HFin : Hid (UI us ul (-1)) := .inr ⟨not_mem_of HT2.out.len (fun t y ht hy => HBf.out t y (by omega) hy), rfl⟩
          go_wp2_with fail
          go_meet
          exact ⟨-1, rfl, HFin.out, HG.out⟩
  case rest =>
  clear HG
  obtain ⟨ui, rfl, hui, hG5⟩ := hcut
  have HG := hid hG5
  have HUI := hid hui
  clear hG5 hui
  go_upto_region 48 with fail
  go_cut [279] from 274 to 279 (fun s279 wx => ∃ b : Bool, s279 = .bool b ∧ (b = true ↔ (us ∈ ul ∧ 0 < nh)) ∧ G5 N w g cap xs wx)
  case first =>
    rename_i K0 aK J0 K1 aJ aM
    clear aK K0
    clear_value *
    as_aux_lemma =>
      by_cases hu : us ∈ ul
      · have h0 : 0 ≤ ui := by
          rcases HUI.out with ⟨_, h⟩ | ⟨h, _⟩
          · omega
          · exact absurd hu h
        by_cases hz : 0 < nh
        · have hz' : (0 : Int) < (nh : Int) := by omega
          go_wp2_with fail
          go_meet
          exact ⟨true, rfl, ⟨fun _ => ⟨hu, hz⟩, fun _ => rfl⟩, HG.out⟩
        · have hz' : ¬ (0 : Int) < (nh : Int) := by omega
          have hz2 : decide ((0 : Int) < (nh : Int)) = false := decide_eq_false hz'
          go_wp2_with fail
          go_meet
          exact ⟨false, rfl, ⟨fun h => (by cases h), fun h => absurd h.2 hz⟩, HG.out⟩
      · have h0 : ¬ 0 ≤ ui := by
          rcases HUI.out with ⟨h, _⟩ | ⟨_, h⟩
          · exact absurd h hu
          · omega
        have h02 : decide (0 ≤ ui) = false := decide_eq_false h0
        go_wp2_with fail
        go_meet
        exact ⟨false, rfl, ⟨fun h => (by cases h), fun h => absurd h.1 hu⟩, HG.out⟩
  case rest =>
  clear HG
  obtain ⟨b, rfl, hb, hG5⟩ := hcut
  have HG := hid hG5
  have HB := hid hb
  clear hG5 hb
  go_upto_if 279 with fail
  go_cut [31] from 280 to 312 (fun s31 wx => ∃ a n c, s31 = .slice a n c ∧ Texts wx a n xs ∧ n ≤ 5000 ∧ G5 N w g cap xs wx)
  case first =>
    rename_i K0 aK J0 K1 aJ aM
    clear aK K0
    clear_value *
    as_aux_lemma =>
      cases b with
      | false =>
        have HF : Hid (xs = []) := HXs.out.trans (XS_no HP2.out (fun h => by have := HB.out.mpr h; cases this))
        go_wp2_with fail
        go_meet
        exact ⟨none, 0, 0, rfl, ⟨by rw [HF.out]; rfl, fun ad e => (by cases e), .inl ⟨rfl, rfl⟩⟩, by omega, HG.out⟩
      | true =>
        obtain ⟨hu, hp1⟩ := HB.out.mp rfl
        have HF : Hid (xs = rawL dl zl pl n0 n2 nh (ix us ul)) := by
          have e1 := HXs.out
          rw [HHs.out] at e1
          exact e1.trans (XS_yes (by rw [HT1.out.len]; exact hnl) HT2.out.len HP1.out ⟨hu, hp1⟩)
        obtain ⟨iu, hiu⟩ : ∃ iu : Nat, iu = ix us ul := ⟨_, rfl⟩
        have hui : ui = (iu : Int) := by
          rcases HUI.out with ⟨_, h⟩ | ⟨h, _⟩
          · rw [h, hiu]
          · exact absurd hu h
        have hp2 : 0 < n2 := by have := ix_lt hu; have := HT2.out.len; omega
        rw [← hiu] at HF
        subst hui
        have hp0 : 0 < n0 := (HNp.out hp1).2
        clear hiu hu HUI
        go_wp2_with fail
        go_loopg [31, 282] n3 (fun k s31 s282 wy => ∃ (m : Nat) (v31 : Value), v31 = s31 ∧ m + k = n3 ∧ s282 = .int .i64 m ∧ H6 wc.heap.size wc (rawL dl zl (pl.take m) n0 n2 nh iu) v31 wy)
        case atStart => exact ⟨0, _, rfl, by omega, rfl, H6.start _⟩
        case round =>
          obtain ⟨m, v31, rfl, hmk, rfl, hH⟩ := hrel
          by_cases hlt : m < n3
          · obtain ⟨⟨pu, ph⟩, hpm⟩ : ∃ p, pl[m]? = some p := ⟨pl[m]'(by rw [HT3.out.len]; exact hlt), List.getElem?_eq_getElem _⟩
            obtain ⟨ad, had, hab, hau, hah⟩ := HT3.out.cell m pu ph hpm
            obtain ⟨hpu, hph⟩ := HT3.out.le _ (List.mem_of_getElem? hpm)
            subst had
            have hBel : Below N w wr := (HG.out.keep hH.bel).bel
            have r0 : wr.cell? (ad.add (m * 2)) = some (.int .u8 (pu : Int)) := (hBel.cell (p := ad.add (m * 2)) (by rw [addB, HNN.out]; exact hab)).trans hau
            have r1 : wr.cell? (ad.add (m * 2 + 1)) = some (.int .u8 (ph : Int)) := (hBel.cell (p := ad.add (m * 2 + 1)) (by rw [addB, HNN.out]; exact hab)).trans hah
            have r2 : wr.cell? ⟨(ad.add (m * 2)).block, (ad.add (m * 2)).off + 1, none⟩ = some (.int .u8 (ph : Int)) := by rw [add_succ]; exact r1
            have HBel := hid hBel
            have HX := hid hH
            have HPm := hid hpm
            clear r1 hBel hH hpm
            obtain ⟨u0, hu0⟩ : ∃ u0 : Nat, pu % n2 = u0 := ⟨_, rfl⟩
            obtain ⟨hu0t, _, hmu, _, _, _, _, _, zt, zt'⟩ := small_facts hp2 g2 hpu hu0
            have HU0 := hid hu0
            clear hu0
            go_upto_region 52 with fail
            obtain ⟨W, hW⟩ : ∃ W, W = wr.alloc (.cells #[.int .u8 (pu : Int), .int .u8 (ph : Int)] 68) := ⟨_, rfl⟩
            rw [← hW]
            have hHW : H6 wc.heap.size wc (rawL dl zl (pl.take m) n0 n2 nh iu) v31 W := by rw [hW]; exact HX.out.alloc _
            have hBW : Below N w W := (HG.out.keep hHW.bel).bel
            have z1 : W.cell? ⟨wr.heap.size, 0, none⟩ = some (.int .u8 (pu : Int)) := by rw [hW]; exact cell_block (heap_alloc_last _ _) rfl
            have z2 : W.cell? ⟨wr.heap.size, 1, none⟩ = some (.int .u8 (ph : Int)) := by rw [hW]; exact cell_block (heap_alloc_last _ _) rfl
            have HHW := hid hHW
            have HBW := hid hBW
            clear hW hHW hBW r0 r2 HX HBel
            by_cases hue : u0 = iu
            · obtain ⟨y0, hy0⟩ : ∃ y0 : Nat, ph % nh = y0 := ⟨_, rfl⟩
              obtain ⟨hy0j, _, hmy, _, _, _, _, _, zj, zj'⟩ := small_facts hp1 g1' hph hy0
              obtain ⟨z, hz⟩ : ∃ z, zl[y0]? = some z := ⟨zl[y0]'(by rw [HT1.out.len]; exact Nat.lt_of_lt_of_le hy0j hnl), List.getElem?_eq_getElem _⟩
              obtain ⟨az, haz, hazb, hazc⟩ := HT1.out.cell y0 z hz
              have hy0n : y0 < n1 := Nat.lt_of_lt_of_le hy0j hnl
              have hz256 := HT1.out.le z (List.mem_of_getElem? hz)
              subst haz
              obtain ⟨o, ho⟩ : ∃ o : Nat, z % n0 = o := ⟨_, rfl⟩
              obtain ⟨hoi, _, hmo, _, _, _, _, _, zo, zo'⟩ := small_facts hp0 g0 hz256 ho
              obtain ⟨d, hd⟩ : ∃ d, dl[o]? = some d := ⟨dl[o]'(by rw [HT0.out.len]; exact hoi), List.getElem?_eq_getElem _⟩
              obtain ⟨adl, hadl, hadb, hadc⟩ := HT0.out.cell o d hd
              subst hadl
              have z3 : W.cell? (az.add y0) = some (.int .u8 (z : Int)) := (HBW.out.cell (p := az.add y0) (by rw [addB, HNN.out]; exact hazb)).trans hazc
              have z4 : W.cell? (adl.add o) = some (.string ⟨d.toArray⟩) := (HBW.out.cell (p := adl.add o) (by rw [addB, HNN.out]; exact hadb)).trans hadc
              have HNext := hid (raw_yes HPm.out (HU0.out.trans hue) hy0 hz ho hd)
              have HI : Hid ((W.alloc (.cells #[.string ⟨d.toArray⟩] 9)).ownsRow wc.heap.size 9 1 v31 (rawL dl zl (pl.take m) n0 n2 nh iu).length ((rawL dl zl (pl.take m) n0 n2 nh iu).map encStr)) := (HHW.out.alloc _).row
              have HN1 := hid (news_at W #[.string ⟨d.toArray⟩] 9 [.string ⟨d.toArray⟩] W.heap.size rfl rfl)
              have hrl : (rawL dl zl (pl.take m) n0 n2 nh iu).length ≤ 1024 := raw_le HT3.out.len g3
              have hsB : wc.heap.size ≤ (W.alloc (.cells #[.string ⟨d.toArray⟩] 9)).heap.size := (HHW.out.alloc _).sz
              have zu := eqb_true hue
              clear hy0 hz ho hd hazb hazc hadb hadc hue
              obtain ⟨raw, hraw⟩ : ∃ raw, raw = rawL dl zl (pl.take m) n0 n2 nh iu := ⟨_, rfl⟩
              rw [← hraw] at HI HNext hrl HHW
              clear hraw
              go_wp2_with (at_builtin; refine wpList_append_own_at _ rfl (.tmp 294) (.tmp 310) 22 rfl wc.heap.size 9 i9 _ 1 16 Yba.underlying22 hi9 hz9 hs9 hb9 rfl (by decide) v31 raw.length (raw.map encStr) rfl HI.out ⟨W.heap.size, 0, none⟩ 1 1 [.string ⟨d.toArray⟩] rfl rfl HN1.out (by intro u hu; simp at hu; subst hu; rfl) (app_b1 hrl) (app_b2 hrl) hsB ?_)
              intro v' w4 hown4 hg4 _ _
              have HFin := hid ((HHW.out.alloc (.cells #[.string ⟨d.toArray⟩] 9)).app HNext.out hown4 hg4)
              clear hown4 hg4
              go_wp2_with fail
              go_roundg (gk - 1)
              case measure => omega
              case rel => exact ⟨m + 1, _, rfl, by omega, by go_num, HFin.out⟩
            · have HNext := hid (raw_other (dl := dl) (zl := zl) (n0 := n0) (nh := nh) HPm.out HU0.out hue)
              have zu := eqb_false hue
              go_wp2_with fail
              go_roundg (gk - 1)
              case measure => omega
              case rel => exact ⟨m + 1, _, rfl, by omega, by go_num, by rw [HNext.out]; exact HHW.out⟩
          · have HE : Hid (pl.take m = pl) := List.take_of_length_le (by rw [HT3.out.len]; omega)
            have HX := hid hH
            clear hH
            obtain ⟨a9, c9, he9, htx9⟩ := texts_of_row HX.out.row
            have HTx := hid htx9
            clear htx9
            subst he9
            have HG9 : Hid (G5 N w g cap xs wr) := HG.out.keep HX.out.bel
            go_wp2_with fail
            go_meet
            refine ⟨a9, _, c9, rfl, ?_, ?_, HG9.out⟩
            · have := HTx.out
              rw [HE.out, ← HF.out] at this
              rw [HE.out, ← HF.out]
              exact this
            · have := rawL_length dl zl (pl.take m) n0 n2 nh iu
              have h2 := HT3.out.len
              rw [HE.out] at this ⊢
              omega
  case rest =>
  clear HG HB HUI
  obtain ⟨a31, n31, c31, rfl, htx, hn31, hG5⟩ := hcut
  have HG := hid hG5
  have HTx := hid htx
  clear hG5 htx
  have hm9 : m9 ≤ 5000 := m9_le HM9.out HTx.out.1 hn31
  go_upto_region 56 with (go_at_call 7; refine (sortuniq7m a31 n31 c31 xs m9 HM9.out _ HTx.out hn31).mono ?_; rintro e w7 ⟨g7, cap7, rfl, hrow7, hbel7⟩)
  have HG7 := hid (HG.out.keep hbel7)
  have HR7 := hid hrow7
  clear hbel7 hrow7 HTx HG
  have hnil := eqlNil w7 ⟨g, 0, none⟩ m9 cap
  go_wp2_with fail
  go_loopg [35] m9 (fun k s35 wz => ∃ i : Nat, i + k = m9 ∧ s35 = .int .i64 i ∧ G5 N w g cap xs wz ∧ wz.ownsRow 0 9 1 (.slice (some ⟨g7, 0, none⟩) m9 cap7) m9 ((su xs).map encStr))
  case atStart => exact ⟨0, by omega, rfl, HG7.out, HR7.out⟩
  case round =>
    obtain ⟨i, hik, rfl, hG7, hR7⟩ := hrel
    clear HG7 HR7
    by_cases hlt : i < m9
    · obtain ⟨y, hy⟩ : ∃ y, (su xs)[i]? = some y := ⟨(su xs)[i]'(by rw [HM9.out]; exact hlt), List.getElem?_eq_getElem _⟩
      have r0 := hG7.cell hy
      have r1 := row_cell hR7 hy
      have e1 : (y == y) = true := by simp
      have HX : Hid (∀ nq, G5 N w g cap xs (wr.drewN nq) ∧ (wr.drewN nq).ownsRow 0 9 1 (.slice (some ⟨g7, 0, none⟩) m9 cap7) m9 ((su xs).map encStr)) := fun nq => ⟨hG7.drewN nq, row_drewN hR7 nq⟩
      clear hG7 hR7 hy
      go_upto_region 61 with fail
      go_big_quiet (fail)
      go_wp2_with fail
      go_roundg (gk - 1)
      case measure => omega
      case rel => exact ⟨i + 1, by omega, by go_num, (HX.out _).1, (HX.out _).2⟩
    · have HX := hid hG7
      clear hG7 hR7
      go_wp2_with fail
      go_ret
      exact ⟨rfl, by rw [← HNN.out]; exact HX.out.bel⟩

set_option maxHeartbeats 64000000 in
set_option maxRecDepth 100000 in
theorem matches3 (a0 : Option Addr) (n0 k0 : Nat) (dl : List (List UInt8)) (a1 : Option Addr) (n1 k1 : Nat) (zl : List Nat) (a2 : Option Addr) (n2 k2 : Nat) (ul : List (List UInt8)) (a3 : Option Addr) (n3 k3 : Nat) (pl : List (Nat × Nat)) (sel : Nat) (ql : List UInt8) (w : World)
    (t0 : Tex w a0 n0 dl) (t1 : Byt w a1 n1 zl) (t2 : Tex w a2 n2 ul) (t3 : Prs w a3 n3 pl) (hsel : sel < 256) (hq : ql.length ≤ maxLen) (m0 : n0 ≤ maxLen) (m1 : n1 ≤ maxLen) (m2 : n2 ≤ maxLen) (m3 : n3 ≤ maxLen) :
    Calls Yba.prog 3 #[.slice a0 n0 k0, .slice a1 n1 k1, .slice a2 n2 k2, .slice a3 n3 k3, .int .u8 (sel : Int), .string ⟨ql.toArray⟩] w fun e w' => e = .returned (.bool true) ∧ Below w.heap.size w w' := by
  have e47 : maxLen ≤ 9223372036854775807 := by unfold maxLen; omega
  by_cases g0 : 256 < n0
  · go_enter Yba.func3, Yba.ntmps3
    go_wp2
    go_ret
    exact ⟨rfl, Below.refl _ _⟩
  by_cases g1 : 256 < n1
  · go_enter Yba.func3, Yba.ntmps3
    go_wp2
    go_ret
    exact ⟨rfl, Below.refl _ _⟩
  by_cases g2 : 256 < n2
  · go_enter Yba.func3, Yba.ntmps3
    go_wp2
    go_ret
    exact ⟨rfl, Below.refl _ _⟩
  by_cases g3 : 1024 < n3
  · go_enter Yba.func3, Yba.ntmps3
    go_wp2
    go_ret
    exact ⟨rfl, Below.refl _ _⟩
  exact matches3_main a0 n0 k0 dl a1 n1 k1 zl a2 n2 k2 ul a3 n3 k3 pl sel ql w t0 t1 t2 t3 hsel hq m0 m1 m2 m3 g0 g1 g2 g3

end Go.Proofs.Ybulkbglm
