/-
  The row of LawS2876ARunID, and its tied card.
-/
import Derived.Test.YbulkbgnqDoorRun
import Derived.Test.YbulkbgnqDoorRowM
import Derived.Test.YbulkbgnqDoorTie
import Derived.Test.YbulkbgnqDoorCards
import Derived.ProofKit
import Derived.LaidMore
import Derived.SizedLaws
import Derived.ChangeMaps5
import Derived.OpenShut
import Derived.Stop.Joined
import Derived.Stop.LaidErr
import Derived.SevenTiedAt
namespace Go.Proofs.YbulkbgnqDoor
open Go.ChangeShapes Go.WideShapes Go.ChangeAt Go.WideMaps Go.WideElems Go.RowKit
open Go.ChangeMaps (open_string shut_string)
set_option linter.unusedVariables false

theorem wf_u64 {n : Int} (h : (Lit.int .u64 n).wf = true) : 0 ≤ n ∧ n < 18446744073709551616 := by
  have e1 : IntKind.u64.min = 0 := rfl
  have e2 : IntKind.u64.max = 18446744073709551615 := rfl
  simp [Lit.wf, e1, e2] at h
  omega
theorem wf_u8 {n : Int} (h : (Lit.int .u8 n).wf = true) : 0 ≤ n ∧ n < 256 := by
  have e1 : IntKind.u8.min = 0 := rfl
  have e2 : IntKind.u8.max = 255 := rfl
  simp [Lit.wf, e1, e2] at h
  omega

theorem door_met4 (os : Os) (args : Array Value) : laidMetH Ybad.prog Rows.lawS2876ARunIDRow.laid ((World.doorLaid Ybad.prog 62 os).forCall (fun _ _ => 0) ⟨#[], args, []⟩).memory :=
  laidMetH_of_parts3 (fuel := 8) (laidMet_of_run' 8 (by kernel_rfl) (by kernel_rfl)) (by kernel_rfl) (by kernel_rfl)

set_option maxRecDepth 100000 in
theorem lifted4 (os : Os) (started : os.Started) (H : Type) (enc : TypeId × Value → H) :
    ReturnsInHanded {} Ybad.checked os 4 .any (fun w args => (Rows.lawS2876ARunIDSpec.pre enc Ybad.prog Ybad.f4 [] false w args ∧ laidMetH Ybad.prog Rows.lawS2876ARunIDRow.laid w) ∧ sizedMet enc Ybad.prog Ybad.f4 (OpenSpec.ofChange Rows.lawS2876ARunIDSpec) false w args)
      (Rows.lawS2876ARunIDSpec.post enc Ybad.prog Ybad.f4 false true false false) := by
  refine returnsInHanded_of_change_and (C := Ybad.checked) (X := fun w _ => laidMetH Ybad.prog Rows.lawS2876ARunIDRow.laid w) (fun _ _ _ hh h => h.of_heap hh) own started (by kernel_rfl) Ybad.func4
    (ChangeSpec.witness_shaped (enc := enc) (C := Ybad.checked) (os := os) (X := fun w _ => laidMetH Ybad.prog Rows.lawS2876ARunIDRow.laid w) false (World.doorLaid Ybad.prog 62 os) #[.string ⟨#[]⟩, .int .u64 0, .int .u16 0, .bool false, .int .u8 0, .int .u8 0] 8 rfl (World.shaped_of_RefB (by kernel_rfl) (by kernel_rfl)) (by kernel_rfl) (by kernel_rfl) (by kernel_rfl) (door_met4 os _)) ?_
  intro W base args ds gs before hval0 hW _ hsz0 hL _
  have hsz : (DataW.weightsEach Ybad.prog (Ybad.f4.params.toList ++ Rows.lawS2876ARunIDSpec.plain.varTypes Ybad.prog) (ds ++ gs)).all (· ≤ reachBytes) = true := hsz0
  clear hsz0
  have hval : ∀ (j : Nat) t v, Ybad.f4.params[j]? = some t → args[j]? = some v → Value.okWide Ybad.prog W .any base t v := hval0
  have hW' := hW
  obtain ⟨p, q, hA0, hV, rfl, _, _⟩ := hW
  have hA : DataW.TrodAll enc Ybad.prog W 0 (fun _ => true) true Ybad.f4.params.toList args.toList ds p := hA0
  rw [Ybad.params4] at hA hval hsz
  obtain ⟨v0, vs0, d0, ds0, p0, q0, hargs, rfl, rfl, h0, r0⟩ := trodAll_cons hA
  obtain ⟨v1, vs1, d1, ds1, p1, q1, rfl, rfl, rfl, h1, r1⟩ := trodAll_cons r0
  obtain ⟨v2, vs2, d2, ds2, p2, q2, rfl, rfl, rfl, h2, r2⟩ := trodAll_cons r1
  obtain ⟨v3, vs3, d3, ds3, p3, q3, rfl, rfl, rfl, h3, r3⟩ := trodAll_cons r2
  obtain ⟨v4, vs4, d4, ds4, p4, q4, rfl, rfl, rfl, h4, r4⟩ := trodAll_cons r3
  obtain ⟨v5, vs5, d5, ds5, p5, q5, rfl, rfl, rfl, h5, r5⟩ := trodAll_cons r4
  obtain ⟨rfl, rfl, rfl⟩ := trodAll_nil r5
  obtain rfl : args = #[v0, v1, v2, v3, v4, v5] := by cases args; simp_all
  obtain ⟨rfl, rfl⟩ := trodVars_none hV
  obtain ⟨s, rfl, rfl, rfl, hs⟩ := open_string Ybad.underlying9 (hval 0 9 v0 rfl rfl) h0
  obtain ⟨num, rfl, rfl, rfl, wn⟩ := open_int Ybad.underlying26 (hval 1 26 v1 rfl rfl) h1
  obtain ⟨up, rfl, rfl, rfl, wu⟩ := open_int Ybad.underlying27 (hval 2 27 v2 rfl rfl) h2
  obtain ⟨co, rfl, rfl, rfl⟩ := open_bool Ybad.underlying4 (hval 3 4 v3 rfl rfl) h3
  obtain ⟨pos, rfl, rfl, rfl, wp⟩ := open_int Ybad.underlying5 (hval 4 5 v4 rfl rfl) h4
  obtain ⟨bad, rfl, rfl, rfl, wb⟩ := open_int Ybad.underlying5 (hval 5 5 v5 rfl rfl) h5
  clear hA0 hval0
  simp only [List.append_nil] at hW'
  obtain ⟨n0, n1⟩ := wf_u64 wn
  obtain ⟨p0, p1⟩ := wf_u8 wp
  obtain ⟨b0, b1⟩ := wf_u8 wb
  obtain ⟨hpos, ev, hv, hev⟩ := errSyntax_of hL
  refine (run4 s num up co pos bad n0 n1 p0 p1 b0 b1 ev W hpos hv hev).mono fun e W' ⟨he, bel⟩ => ?_
  subst he
  exact ⟨_, rfl, _, _, _, [], [], [], hW', trodAll_mk1 (shut_bool Ybad.underlying4 _),
    trodAll_cons_mk (p := []) (p' := []) (shut_string Ybad.underlying9 hs) (trodAll_cons_mk (p := []) (p' := []) (shut_int Ybad.underlying26 wn) (trodAll_cons_mk (p := []) (p' := []) (shut_int Ybad.underlying27 wu) (trodAll_cons_mk (p := []) (p' := []) (shut_bool Ybad.underlying4 _) (trodAll_cons_mk (p := []) (p' := []) (shut_int Ybad.underlying5 wp) (trodAll_cons_mk (p := []) (p' := []) (shut_int Ybad.underlying5 wb) trodAll_mk0))))),
    rfl, bel.frame _, fun h => by cases h⟩

theorem runid_holds : Rows.LawS2876ARunIDSaid :=
  OpenClaim.holds_of_wide 4 Ybad.f4 rfl rfl rfl rfl rfl rfl rfl ⟨rfl, rfl, rfl, rfl, rfl⟩ rfl rfl rfl rfl rfl (by kernel_rfl) Ybad.func4 (by kernel_rfl)
    (of_decide_eq_true (by kernel_rfl)) (by unfold Func.isWrapper; first | (rw [if_pos (by decide +kernel)]; kernel_rfl) | (rw [if_neg (by decide +kernel)]; exact ⟨rfl, rfl⟩))
    (fun os started H enc _ => lifted4 os started H enc)

theorem runidCard : Rows.LawS2876ARunIDCardSaid :=
  Claim7.holds_tied_plain_at .later [] [.data, .data, .data, .sentinel, .sentinel] true (true, "100aa5db391b2c19e5465d6045bb5f64231c94d2374dda353d9eff61e1d55566") true
    runid_holds (fun _ h => by cases h) (by kernel_rfl) (fun _ h => by cases h) lawS2876ARunID_row_tie rfl ⟨rfl, rfl⟩ (by kernel_rfl) rfl
    (fun f fn hf hfn => by
      obtain rfl : f = 4 := Option.some.inj ((show Ybad.prog.funcNamed Rows.lawS2876ARunIDRow.func = some 4 by kernel_rfl).symm.trans hf) |>.symm
      obtain rfl : fn = Ybad.f4 := (Option.some.inj (Ybad.func4.symm.trans hfn)).symm
      exact ⟨by kernel_rfl, fun j t ht => by
        rw [Ybad.params4] at ht
        have hm : t ∈ [9, 26, 27, 4, 5, 5] := by simpa using Array.mem_of_getElem? ht
        have hall : ([9, 26, 27, 4, 5, 5].all fun u => !Ybad.prog.wantsStandIn u) = true := by kernel_rfl
        exact (show Ybad.prog.wantsStandIn t = false by simpa using List.all_eq_true.1 hall t hm)⟩)
    (by kernel_rfl)
end Go.Proofs.YbulkbgnqDoor
