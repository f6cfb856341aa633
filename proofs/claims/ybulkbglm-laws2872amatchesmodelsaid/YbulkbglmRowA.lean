/-
  The row of LawS2872AMatchesModel.
-/
import Derived.Test.YbulkbglmRows
import Derived.Test.YbulkbglmA9
import Derived.Test.YbulkbglmOpenA
import Derived.WalkKit
import Derived.ProofKit
import Derived.OpenShut
import Derived.ChangeOld
import Derived.Below
namespace Go.Proofs.Ybulkbglm
open Go.ChangeShapes Go.WideShapes Go.ChangeAt Go.RowKit
set_option linter.unusedVariables false

theorem ownA : ownKnob Yba.prog.godebug = none := by kernel_rfl
theorem laidOutA : laidOutB Yba.prog = true := by kernel_rfl

set_option maxRecDepth 100000 in
theorem liftedA (os : Os) (started : os.Started) (H : Type) (enc : TypeId × Value → H) :
    ReturnsInHanded {} Yba.checked os 3 .any (Rows.lawS2872AMatchesModelSpec.pre6 enc Yba.prog Yba.f3 Rows.lawS2872AMatchesModelRow.domain false) (Rows.lawS2872AMatchesModelSpec.post enc Yba.prog Yba.f3 false true false false) := by
  refine returnsInHanded_of_change (C := Yba.checked) ownA started (by kernel_rfl) Yba.func3
    (ChangeSpec.witness6 (enc := enc) (C := Yba.checked) false ⟨#[], #[.slice none 0 0, .slice none 0 0, .slice none 0 0, .slice none 0 0, .int .u8 0, .string ⟨#[]⟩], []⟩ 8 (by kernel_rfl) (by kernel_rfl) (by kernel_rfl) (by kernel_rfl)) ?_
  intro W base args ds gs before hval0 hW hcnd _
  have hval : ∀ (j : Nat) t v, Yba.f3.params[j]? = some t → args[j]? = some v → Value.okWide Yba.prog W .any base t v := hval0
  have hW' := hW
  obtain ⟨p, q, hA0, hV, rfl, hfz, hnd⟩ := hW
  have hA : DataW.TrodAll enc Yba.prog W 0 (fun _ => true) true Yba.f3.params.toList args.toList ds p := hA0
  rw [Yba.params3] at hA hval
  obtain ⟨v0, vs0, d0, ds0, p0, q0, hargs, rfl, rfl, h0, r0⟩ := trodAll_cons hA
  obtain ⟨v1, vs1, d1, ds1, p1, q1, rfl, rfl, rfl, h1, r1⟩ := trodAll_cons r0
  obtain ⟨v2, vs2, d2, ds2, p2, q2, rfl, rfl, rfl, h2, r2⟩ := trodAll_cons r1
  obtain ⟨v3, vs3, d3, ds3, p3, q3, rfl, rfl, rfl, h3, r3⟩ := trodAll_cons r2
  obtain ⟨v4, vs4, d4, ds4, p4, q4, rfl, rfl, rfl, h4, r4⟩ := trodAll_cons r3
  obtain ⟨v5, vs5, d5, ds5, p5, q5, rfl, rfl, rfl, h5, r5⟩ := trodAll_cons r4
  obtain ⟨rfl, rfl, rfl⟩ := trodAll_nil r5
  obtain rfl : args = #[v0, v1, v2, v3, v4, v5] := by cases args; simp_all
  obtain ⟨rfl, rfl⟩ := trodVars_none hV
  obtain ⟨a0, n0, k0, rfl⟩ := okWide_slice Yba.underlying22 (hval 0 22 v0 rfl rfl)
  obtain ⟨a1, n1, k1, rfl⟩ := okWide_slice Yba.underlying23 (hval 1 23 v1 rfl rfl)
  obtain ⟨a2, n2, k2, rfl⟩ := okWide_slice Yba.underlying22 (hval 2 22 v2 rfl rfl)
  obtain ⟨a3, n3, k3, rfl⟩ := okWide_slice Yba.underlying24 (hval 3 24 v3 rfl rfl)
  have lt : ∀ {t : TypeId} {v : Value} {d : DataW H} {ps : List MemPlace}, DataW.Trod enc Yba.prog W 0 (fun _ => true) true t v d ps → ∀ x ∈ ps, x.block < W.heap.size := fun k => by obtain ⟨m, hm⟩ := k; exact DataW.trod_lt m _ _ _ hm
  obtain ⟨m0, dl, t0⟩ : n0 ≤ maxLen ∧ ∃ l, Tex W a0 n0 l := by obtain ⟨f, hf⟩ := h0; exact tex_of (by simpa [Value.cells] using hf)
  obtain ⟨m1, zl, t1⟩ : n1 ≤ maxLen ∧ ∃ l, Byt W a1 n1 l := by obtain ⟨f, hf⟩ := h1; exact byt_of (by simpa [Value.cells] using hf)
  obtain ⟨m2, ul, t2⟩ : n2 ≤ maxLen ∧ ∃ l, Tex W a2 n2 l := by obtain ⟨f, hf⟩ := h2; exact tex_of (by simpa [Value.cells] using hf)
  obtain ⟨m3, pl, t3⟩ : n3 ≤ maxLen ∧ ∃ l, Prs W a3 n3 l := by obtain ⟨f, hf⟩ := h3; exact prs_of (by simpa [Value.cells] using hf)
  obtain ⟨sel, rfl, hsel⟩ : ∃ sel : Nat, v4 = .int .u8 (sel : Int) ∧ sel < 256 := by
    obtain ⟨n, rfl⟩ := okWide_int Yba.underlying5 (hval 4 5 v4 rfl rfl)
    obtain ⟨f, hf⟩ := h4
    obtain ⟨s, hs, _, hw⟩ := DataW.trod_int Yba.underlying5 (show DataW.trod enc Yba.prog W 0 (fun _ => true) true f 5 [.int .u8 n] = some _ by simpa [Value.cells] using hf)
    obtain ⟨z0, z1⟩ := wf_u8 hw
    have e : n = s := by simpa using hs
    subst e
    exact ⟨n.toNat, by rw [Int.toNat_of_nonneg z0], by omega⟩
  obtain ⟨ql, rfl, hq⟩ : ∃ ql : List UInt8, v5 = .string ⟨ql.toArray⟩ ∧ ql.length ≤ maxLen := by
    obtain ⟨s, rfl⟩ := okWide_string Yba.underlying9 (hval 5 9 v5 rfl rfl)
    obtain ⟨f, hf⟩ := h5
    obtain ⟨s', hs, _, hw⟩ := DataW.trod_string Yba.underlying9 (show DataW.trod enc Yba.prog W 0 (fun _ => true) true f 9 [.string s] = some _ by simpa [Value.cells] using hf)
    have e : s = s' := by simpa using hs
    subst e
    refine ⟨s.data.toList, by simp, ?_⟩
    have : s.data.size ≤ maxLen := hw
    simpa using this
  clear hA0 hval0
  refine (matches3 a0 n0 k0 dl a1 n1 k1 zl a2 n2 k2 ul a3 n3 k3 pl sel ql W t0 t1 t2 t3 hsel hq m0 m1 m2 m3).mono fun e W' ⟨he, bel⟩ => ?_
  subst he
  exact ⟨_, rfl, _, _, _, [], _, [], hW', trodAll_mk1 (shut_bool Yba.underlying4 _),
    (trodAll_cons_mk (Below.trod laidOutA (by kernel_rfl) (of_decide_eq_true (by kernel_rfl)) h0 bel (lt h0))
    (trodAll_cons_mk (Below.trod laidOutA (by kernel_rfl) (of_decide_eq_true (by kernel_rfl)) h1 bel (lt h1))
    (trodAll_cons_mk (Below.trod laidOutA (by kernel_rfl) (of_decide_eq_true (by kernel_rfl)) h2 bel (lt h2))
    (trodAll_cons_mk (Below.trod laidOutA (by kernel_rfl) (of_decide_eq_true (by kernel_rfl)) h3 bel (lt h3))
    (trodAll_cons_mk (Below.trod laidOutA (by kernel_rfl) (of_decide_eq_true (by kernel_rfl)) h4 bel (lt h4))
    (trodAll_cons_mk (Below.trod laidOutA (by kernel_rfl) (of_decide_eq_true (by kernel_rfl)) h5 bel (lt h5)) trodAll_mk0)))))), rfl, bel.frame _, fun h => by cases h⟩

theorem matchesLaw : Rows.LawS2872AMatchesModelSaid :=
  OpenClaim.holds_of_wide 3 Yba.f3 rfl rfl rfl rfl rfl rfl rfl ⟨rfl, rfl, rfl, rfl, rfl⟩ rfl rfl rfl rfl rfl (by kernel_rfl) Yba.func3 (by kernel_rfl)
    (of_decide_eq_true (by kernel_rfl)) (by unfold Func.isWrapper; first | (rw [if_pos (by decide +kernel)]; kernel_rfl) | (rw [if_neg (by decide +kernel)]; exact ⟨rfl, rfl⟩))
    (fun os started H enc _ => liftedA os started H enc)
end Go.Proofs.Ybulkbglm
