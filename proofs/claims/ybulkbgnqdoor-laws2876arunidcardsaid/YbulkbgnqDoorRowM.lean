/-
  The row of LawS2876AModel, and its tied card.
-/
import Derived.Test.YbulkbgnqDoorModel
import Derived.Test.YbulkbgnqDoorTie
import Derived.Test.YbulkbgnqDoorCards
import Derived.ProofKit
import Derived.LaidMore
import Derived.SizedLaws
import Derived.ChangeMaps5
import Derived.OpenShut
import Derived.Stop.Joined
import Derived.Stop.LaidErr
import Derived.SevenTiedAt
namespace Go.Proofs.YbulkbgnqDoor
open Go.ChangeShapes Go.WideShapes Go.ChangeAt Go.WideMaps Go.WideElems Go.RowKit
open Go.ChangeMaps (open_string shut_string)
set_option linter.unusedVariables false

theorem own : ownKnob Ybad.prog.godebug = none := by kernel_rfl

theorem gES : Ybad.prog.globalNamed "strconv.ErrSyntax" = some 0 := by kernel_rfl
theorem gESType : (Ybad.prog.globals[0]?).map (·.type) = some 32 := by kernel_rfl
theorem cells49 : Ybad.prog.cellsOf 49 = 1 := by kernel_rfl
theorem cells9 : Ybad.prog.cellsOf 9 = 1 := by kernel_rfl
theorem star : "*" ++ "errors.errorString" = "*errors.errorString" := by decide
theorem row47 (u : TypeId) (h : Ybad.prog.typeName? 3 u = some "*errors.errorString") : u = 47 :=
  typeName_ptr_named (nm := "errors.errorString") (by rw [star]; kernel_rfl) (by kernel_rfl) (by decide) u (by rw [star]; exact h)

/-- the variable strconv.ErrSyntax, under what the row's list gives -/
theorem errSyntax_of {W : World} (h : laidMet Ybad.prog Rows.lawS2876AModelRow.laid W) :
    0 < W.heap.size ∧ ∃ ev : Value, W.cell? ⟨0, 0, none⟩ = some ev ∧ (ev = .nilIface ∨ ∃ te pe, ev = .iface te pe) := by
  have h4 := h.tail.tail.tail.tail
  obtain ⟨a0, s0, hv0, -, -, -⟩ := laid_sentinel h4 gES gESType Ybad.underlying32 row47 Ybad.underlying47 Ybad.underlying49 rfl rfl Ybad.underlying9 cells49 cells9
  have hc : W.cell? ⟨0, 0, none⟩ = some (.iface 47 (.pointer (some a0))) := by
    have h0 := World.var?_cell gES hv0 0
    simpa using h0
  refine ⟨?_, _, hc, .inr ⟨_, _, rfl⟩⟩
  apply Nat.pos_of_ne_zero
  intro hz
  unfold World.cell? at hc
  have : W.heap[0]? = none := by rw [Array.getElem?_eq_none_iff]; omega
  simp [this] at hc

theorem door_met (os : Os) (args : Array Value) : laidMetH Ybad.prog Rows.lawS2876AModelRow.laid ((World.doorLaid Ybad.prog 62 os).forCall (fun _ _ => 0) ⟨#[], args, []⟩).memory :=
  laidMetH_of_parts3 (fuel := 8) (laidMet_of_run' 8 (by kernel_rfl) (by kernel_rfl)) (by kernel_rfl) (by kernel_rfl)

set_option maxRecDepth 100000 in
theorem lifted3 (os : Os) (started : os.Started) (H : Type) (enc : TypeId × Value → H) :
    ReturnsInHanded {} Ybad.checked os 3 .any (fun w args => (Rows.lawS2876AModelSpec.pre enc Ybad.prog Ybad.f3 [] false w args ∧ laidMetH Ybad.prog Rows.lawS2876AModelRow.laid w) ∧ sizedMet enc Ybad.prog Ybad.f3 (OpenSpec.ofChange Rows.lawS2876AModelSpec) false w args)
      (Rows.lawS2876AModelSpec.post enc Ybad.prog Ybad.f3 false true false false) := by
  refine returnsInHanded_of_change_and (C := Ybad.checked) (X := fun w _ => laidMetH Ybad.prog Rows.lawS2876AModelRow.laid w) (fun _ _ _ hh h => h.of_heap hh) own started (by kernel_rfl) Ybad.func3
    (ChangeSpec.witness_shaped (enc := enc) (C := Ybad.checked) (os := os) (X := fun w _ => laidMetH Ybad.prog Rows.lawS2876AModelRow.laid w) false (World.doorLaid Ybad.prog 62 os) #[.string ⟨#[]⟩] 8 rfl (World.shaped_of_RefB (by kernel_rfl) (by kernel_rfl)) (by kernel_rfl) (by kernel_rfl) (by kernel_rfl) (door_met os _)) ?_
  intro W base args ds gs before hval0 hW _ hsz0 hL _
  have hsz : (DataW.weightsEach Ybad.prog (Ybad.f3.params.toList ++ Rows.lawS2876AModelSpec.plain.varTypes Ybad.prog) (ds ++ gs)).all (· ≤ reachBytes) = true := hsz0
  clear hsz0
  have hval : ∀ (j : Nat) t v, Ybad.f3.params[j]? = some t → args[j]? = some v → Value.okWide Ybad.prog W .any base t v := hval0
  have hW' := hW
  obtain ⟨p, q, hA0, hV, rfl, _, _⟩ := hW
  have hA : DataW.TrodAll enc Ybad.prog W 0 (fun _ => true) true Ybad.f3.params.toList args.toList ds p := hA0
  rw [Ybad.params3] at hA hval hsz
  obtain ⟨v0, vs0, d0, ds0, p0, q0, hargs, rfl, rfl, h0, r0⟩ := trodAll_cons hA
  obtain ⟨rfl, rfl, rfl⟩ := trodAll_nil r0
  obtain rfl : args = #[v0] := by cases args; simp_all
  obtain ⟨rfl, rfl⟩ := trodVars_none hV
  obtain ⟨s, rfl, rfl, rfl, hs⟩ := open_string Ybad.underlying9 (hval 0 9 v0 rfl rfl) h0
  clear hA0 hval0
  simp only [List.append_nil] at hW'
  have hlim : s.size ≤ 281474976710656 := by
    have h1 := sized_string hsz (j := 0) (t := 9) rfl rfl
    have h2 := reachBytes_lt
    have e1 : s.size = s.data.size := rfl
    have e2 : s.data.toList.length = s.data.size := Array.length_toList
    have e3 : (2 : Nat) ^ 47 = 140737488355328 := by decide
    omega
  obtain ⟨hpos, ev, hv, hev⟩ := errSyntax_of hL
  refine (law3 s hlim ev W hpos hv hev).mono fun e W' ⟨he, bel⟩ => ?_
  subst he
  exact ⟨_, rfl, _, _, _, [], [], [], hW', trodAll_mk1 (shut_bool Ybad.underlying4 _), trodAll_mk1 (shut_string Ybad.underlying9 hs), rfl, bel.frame _, fun h => by cases h⟩

theorem model_holds : Rows.LawS2876AModelSaid :=
  OpenClaim.holds_of_wide 3 Ybad.f3 rfl rfl rfl rfl rfl rfl rfl ⟨rfl, rfl, rfl, rfl, rfl⟩ rfl rfl rfl rfl rfl (by kernel_rfl) Ybad.func3 (by kernel_rfl)
    (of_decide_eq_true (by kernel_rfl)) (by unfold Func.isWrapper; first | (rw [if_pos (by decide +kernel)]; kernel_rfl) | (rw [if_neg (by decide +kernel)]; exact ⟨rfl, rfl⟩))
    (fun os started H enc _ => lifted3 os started H enc)

theorem modelCard : Rows.LawS2876AModelCardSaid :=
  Claim7.holds_tied_plain_at .later [] [.data, .data, .data, .sentinel, .sentinel] true (true, "100aa5db391b2c19e5465d6045bb5f64231c94d2374dda353d9eff61e1d55566") true
    model_holds (fun _ h => by cases h) (by kernel_rfl) (fun _ h => by cases h) lawS2876AModel_row_tie rfl ⟨rfl, rfl⟩ (by kernel_rfl) rfl
    (fun f fn hf hfn => by
      obtain rfl : f = 3 := Option.some.inj ((show Ybad.prog.funcNamed Rows.lawS2876AModelRow.func = some 3 by kernel_rfl).symm.trans hf) |>.symm
      obtain rfl : fn = Ybad.f3 := (Option.some.inj (Ybad.func3.symm.trans hfn)).symm
      exact ⟨by kernel_rfl, fun j t ht => by
        rw [Ybad.params3] at ht
        have hm : t ∈ [9] := by simpa using Array.mem_of_getElem? ht
        have hall : ([9].all fun u => !Ybad.prog.wantsStandIn u) = true := by kernel_rfl
        exact (show Ybad.prog.wantsStandIn t = false by simpa using List.all_eq_true.1 hall t hm)⟩)
    (by kernel_rfl)
end Go.Proofs.YbulkbgnqDoor
