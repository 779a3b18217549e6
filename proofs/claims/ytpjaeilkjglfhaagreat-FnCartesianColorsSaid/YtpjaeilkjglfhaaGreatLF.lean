/- laws.FnCartesianColors: for every input the call returns true, and each argument reads behind the call as it read before. No condition. -/
import Derived.Test.YtpjaeilkjglfhaaGreatRows
import Derived.Test.YtpjaeilkjglfhaaGreatJL6
import Derived.Test.YtpjaeilkjglfhaaGreatJQ20
import Derived.ShutString
import Derived.ChangeOld
set_option linter.all false
namespace Go.Proofs.YtpjaeilkjglfhaaGreat.cartesianColors
open Go.ChangeShapes Go.WideShapes Go.ChangeAt Go.RowKit Go.V
set_option linter.unusedVariables false

theorem own : ownKnob Tryz.prog.godebug = none := by kernel_rfl
theorem laidOut : laidOutB Tryz.prog = true := by kernel_rfl

set_option maxRecDepth 100000 in
theorem lifted (os : Os) (started : os.Started) (H : Type) (enc : TypeId × Value → H) :
    ReturnsInHanded {} Tryz.checked os 3 .any (Rows.fnCartesianColorsSpec.pre6 enc Tryz.prog Tryz.f3 Rows.fnCartesianColorsRow.domain false) (Rows.fnCartesianColorsSpec.post enc Tryz.prog Tryz.f3 false true false false) := by
  refine returnsInHanded_of_change (C := Tryz.checked) own started (by kernel_rfl) Tryz.func3
    (ChangeSpec.witness6 (enc := enc) (C := Tryz.checked) false ⟨#[], #[.agg #[.bool false, .slice none 0 0, .slice none 0 0], .agg #[.bool false, .slice none 0 0, .slice none 0 0]], []⟩ 8 (by kernel_rfl) (by kernel_rfl) (by kernel_rfl) (by kernel_rfl)) ?_
  intro W base args ds gs before hval0 hW hcnd _
  have hval : ∀ (j : Nat) t v, Tryz.f3.params[j]? = some t → args[j]? = some v → Value.okWide Tryz.prog W .any base t v := hval0
  have hW' := hW
  obtain ⟨p, q, hA0, hV, rfl, hfz, hnd⟩ := hW
  have hA : DataW.TrodAll enc Tryz.prog W 0 (fun _ => true) true Tryz.f3.params.toList args.toList ds p := hA0
  rw [Tryz.params3] at hA hval
  obtain ⟨v0, v1, d0, d1, p0, p1, rfl, rfl, rfl, h0, h1⟩ := trodAll_two hA
  obtain ⟨rfl, rfl⟩ := trodVars_none hV
  have lt0 : ∀ x ∈ p0, x.block < W.heap.size := by obtain ⟨m, hm⟩ := h0; exact DataW.trod_lt m _ _ _ hm
  have lt1 : ∀ x ∈ p1, x.block < W.heap.size := by obtain ⟨m, hm⟩ := h1; exact DataW.trod_lt m _ _ _ hm
  obtain ⟨ga, hga⟩ := open_graph (hval 0 25 v0 rfl rfl) h0
  obtain ⟨gb, hgb⟩ := open_graph (hval 1 25 v1 rfl rfl) h1
  clear hA0 hval0
  refine (law_spec hga hgb (Nat.le_refl _)).mono fun e W' ⟨he, hk⟩ => ?_
  have bel := hk.below
  subst he
  exact ⟨_, rfl, _, _, _, [], _, [], hW', trodAll_mk1 (shut_bool Tryz.underlying4 _), (trodAll_cons_mk (Below.trod laidOut (by kernel_rfl) (of_decide_eq_true (by kernel_rfl)) h0 bel lt0) (trodAll_cons_mk (Below.trod laidOut (by kernel_rfl) (of_decide_eq_true (by kernel_rfl)) h1 bel lt1) trodAll_mk0)), rfl, bel.frame _, fun h => by cases h⟩

theorem and2 {a b : Bool} (ha : a = true) (hb : b = true) : (a && b) = true := by rw [ha, hb]; rfl
set_option maxHeartbeats 8000000 in
set_option maxRecDepth 100000 in
theorem closed : joinedFacts Tryz.pinned.checked.prog 3 Tryz.f3 Rows.fnCartesianColorsSpec Rows.fnCartesianColorsRow = true := by
  unfold joinedFacts
  repeat' (with_reducible refine and2 ?_ ?_)
  all_goals as_aux_lemma => kernel_rfl
theorem named : Tryz.pinned.checked.prog.funcNamed Rows.fnCartesianColorsRow.func = some 3 := by kernel_rfl
theorem inst : Tryz.f3.isInstance Tryz.pinned.checked.prog Rows.fnCartesianColorsRow.origin Rows.fnCartesianColorsRow.targs := of_decide_eq_true (by kernel_rfl)
theorem wrap : Tryz.f3.isWrapper Tryz.pinned.checked.prog Rows.fnCartesianColorsRow.wrapper Rows.fnCartesianColorsRow.mainSum := by
  unfold Func.isWrapper; rw [if_neg (of_decide_eq_false (by kernel_rfl))]; exact ⟨rfl, rfl⟩
theorem over : Rows.fnCartesianColorsRow.holds Tryz.pinned (OpenSpec.ofChange Rows.fnCartesianColorsSpec) :=
  OpenClaim.holds_of_wide 3 Tryz.f3 rfl rfl rfl rfl rfl rfl rfl ⟨rfl, rfl, rfl, rfl, rfl⟩ rfl rfl rfl rfl rfl named Tryz.func3 closed inst wrap
    (fun os started H enc _ => lifted os started H enc)

theorem proved : Rows.FnCartesianColorsSaid := over
end Go.Proofs.YtpjaeilkjglfhaaGreat.cartesianColors
