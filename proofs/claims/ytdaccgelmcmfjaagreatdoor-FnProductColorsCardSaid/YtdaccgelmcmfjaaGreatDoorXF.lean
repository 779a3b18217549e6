/- laws.FnProductColors: for every input the call returns true, and each argument reads behind the call as it read before; the one listed variable (the sentinel ErrInvalidPartialColoring) is tied to the program's text by the card. No other condition. -/
import Derived.Test.YtdaccgelmcmfjaaGreatDoorCards
import Derived.Test.YtdaccgelmcmfjaaGreatDoorTie
import Derived.Test.YtdaccgelmcmfjaaGreatDoorX14
import Derived.Test.YtdaccgelmcmfjaaGreatDoorJQ20
import Derived.ShutString
import Derived.ChangeOld
import Derived.LaidMore
import Derived.Stop.Joined
import Derived.SevenTiedAt
set_option linter.all false
namespace Go.Proofs.YtdaccgelmcmfjaaGreatDoor.productColors
open Go.ChangeShapes Go.WideShapes Go.ChangeAt Go.RowKit Go.V
set_option linter.unusedVariables false
theorem own : ownKnob Tryz.prog.godebug = none := by kernel_rfl
theorem laidOut : laidOutB Tryz.prog = true := by kernel_rfl
def laid1 : List (String × DataW Unit) := [("pub-labyrinth/pub/gonum/graph/coloring.ErrInvalidPartialColoring", Rows.laid_pub_labyrinth_pub_gonum_graph_coloring_ErrInvalidPartialColoring)]
set_option maxRecDepth 100000 in
theorem door_met (os : Os) (args : Array Value) : laidMetH Tryz.prog laid1 ((World.doorLaid Tryz.prog 400 os).forCall (fun _ _ => 0) ⟨#[], args, []⟩).memory :=
  laidMetH_of_parts3 (fuel := 8) (laidMet_of_run' 8 (by kernel_rfl) (by kernel_rfl)) (by kernel_rfl) (by kernel_rfl)
set_option maxRecDepth 100000 in
theorem lifted (os : Os) (started : os.Started) (H : Type) (enc : TypeId × Value → H) :
    ReturnsInHanded {} Tryz.checked os 3 .any (fun w args => (Rows.fnProductColorsSpec.pre enc Tryz.prog Tryz.f3 [] false w args ∧ laidMetH Tryz.prog laid1 w) ∧ sizedMet enc Tryz.prog Tryz.f3 (OpenSpec.ofChange Rows.fnProductColorsSpec) false w args)
      (Rows.fnProductColorsSpec.post enc Tryz.prog Tryz.f3 false true false false) := by
  refine returnsInHanded_of_change_and (C := Tryz.checked) (X := fun w _ => laidMetH Tryz.prog laid1 w) (fun _ _ _ hh h => h.of_heap hh) own started (by kernel_rfl) Tryz.func3
    (ChangeSpec.witness_shaped (enc := enc) (C := Tryz.checked) (os := os) (X := fun w _ => laidMetH Tryz.prog laid1 w) false (World.doorLaid Tryz.prog 400 os) #[.agg #[.bool false, .slice none 0 0, .slice none 0 0], .agg #[.bool false, .slice none 0 0, .slice none 0 0]] 8 rfl (World.shaped_of_RefB (by kernel_rfl) (by kernel_rfl)) (by kernel_rfl) (by kernel_rfl) (by kernel_rfl) (door_met os _)) ?_
  intro W base args ds gs before hval0 hW _ _ hL _
  have hval : ∀ (j : Nat) t v, Tryz.f3.params[j]? = some t → args[j]? = some v → Value.okWide Tryz.prog W .any base t v := hval0
  have hW' := hW
  obtain ⟨p, q, hA0, hV, rfl, hfz, hnd⟩ := hW
  have hA : DataW.TrodAll enc Tryz.prog W 0 (fun _ => true) true Tryz.f3.params.toList args.toList ds p := hA0
  rw [Tryz.params3] at hA hval
  obtain ⟨v0, v1, d0, d1, p0, p1, rfl, rfl, rfl, h0, h1⟩ := trodAll_two hA
  obtain ⟨rfl, rfl⟩ := trodVars_none hV
  have lt0 : ∀ x ∈ p0, x.block < W.heap.size := by obtain ⟨m, hm⟩ := h0; exact DataW.trod_lt m _ _ _ hm
  have lt1 : ∀ x ∈ p1, x.block < W.heap.size := by obtain ⟨m, hm⟩ := h1; exact DataW.trod_lt m _ _ _ hm
  obtain ⟨ga, hga⟩ := open_graph (hval 0 25 v0 rfl rfl) h0
  obtain ⟨gb, hgb⟩ := open_graph (hval 1 25 v1 rfl rfl) h1
  clear hA0 hval0
  refine (law_spec hga hgb (Nat.le_refl _)).mono fun e W' ⟨he, hk⟩ => ?_
  have bel := hk.below
  subst he
  exact ⟨_, rfl, _, _, _, [], _, [], hW', trodAll_mk1 (shut_bool Tryz.underlying4 _), (trodAll_cons_mk (Below.trod laidOut (by kernel_rfl) (of_decide_eq_true (by kernel_rfl)) h0 bel lt0) (trodAll_cons_mk (Below.trod laidOut (by kernel_rfl) (of_decide_eq_true (by kernel_rfl)) h1 bel lt1) trodAll_mk0)), rfl, bel.frame _, fun h => by cases h⟩
theorem and2 {a b : Bool} (ha : a = true) (hb : b = true) : (a && b) = true := by rw [ha, hb]; rfl
set_option maxHeartbeats 8000000 in
set_option maxRecDepth 100000 in
theorem closed : joinedFacts Tryz.pinned.checked.prog 3 Tryz.f3 Rows.fnProductColorsSpec Rows.fnProductColorsRow = true := by
  unfold joinedFacts
  repeat' (with_reducible refine and2 ?_ ?_)
  all_goals as_aux_lemma => kernel_rfl
theorem named : Tryz.pinned.checked.prog.funcNamed Rows.fnProductColorsRow.func = some 3 := by kernel_rfl
theorem inst : Tryz.f3.isInstance Tryz.pinned.checked.prog Rows.fnProductColorsRow.origin Rows.fnProductColorsRow.targs := of_decide_eq_true (by kernel_rfl)
theorem wrap : Tryz.f3.isWrapper Tryz.pinned.checked.prog Rows.fnProductColorsRow.wrapper Rows.fnProductColorsRow.mainSum := by
  unfold Func.isWrapper; rw [if_neg (of_decide_eq_false (by kernel_rfl))]; exact ⟨rfl, rfl⟩
theorem over : Rows.fnProductColorsRow.holds Tryz.pinned (OpenSpec.ofChange Rows.fnProductColorsSpec) :=
  OpenClaim.holds_of_wide 3 Tryz.f3 rfl rfl rfl rfl rfl rfl rfl ⟨rfl, rfl, rfl, rfl, rfl⟩ rfl rfl rfl rfl rfl named Tryz.func3 closed inst wrap
    (fun os started H enc _ => lifted os started H enc)
set_option maxRecDepth 100000 in
theorem proved : Rows.FnProductColorsCardSaid :=
  Claim7.holds_tied_plain_at .later [] [.sentinel] true (true, "2d16c88e0d5fed6f3de1bfbdee51e81c28a209b5416de587d7c79deb41037799") true
    over (fun _ h => by cases h) (by kernel_rfl) (fun _ h => by cases h) fnProductColors_row_tie rfl ⟨rfl, rfl⟩ (by kernel_rfl) rfl
    (fun f fn hf hfn => by
      obtain rfl : f = 3 := (Option.some.inj (named.symm.trans hf)).symm
      obtain rfl : fn = Tryz.f3 := (Option.some.inj (Tryz.func3.symm.trans hfn)).symm
      exact ⟨by kernel_rfl, fun j t ht => by
        rw [Tryz.params3] at ht
        have hm : t ∈ [25] := by simpa using Array.mem_of_getElem? ht
        have hall : ([25].all fun u => !Tryz.prog.wantsStandIn u) = true := by kernel_rfl
        exact (show Tryz.prog.wantsStandIn t = false by simpa using List.all_eq_true.1 hall t hm)⟩)
    (by kernel_rfl)
end Go.Proofs.YtdaccgelmcmfjaaGreatDoor.productColors
