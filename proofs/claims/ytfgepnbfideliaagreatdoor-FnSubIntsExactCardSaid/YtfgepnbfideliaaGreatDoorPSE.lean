/- For every pair of ints on a 64-bit platform, FnSubIntsExact returns true. -/
import Derived.Test.YtfgepnbfideliaaGreatDoorSih19
import Derived.Test.YtfgepnbfideliaaGreatDoorFrame
import Derived.Test.YtfgepnbfideliaaGreatDoorTie
import Derived.Test.YtfgepnbfideliaaGreatDoorCards
namespace Go.Proofs.YtfgepnbfideliaaGreatDoor
open Go.ChangeShapes Go.WideShapes Go.ChangeAt Go.RowKit
open Go.ChangeMaps (open_string)
set_option maxRecDepth 100000
set_option maxHeartbeats 40000000
theorem lifted_SE (os : Os) (started : os.Started) (H : Type) (enc : TypeId × Value → H) :
    ReturnsInHanded {} Tryz.checked os 3 .any (fun w args => (Rows.fnSubIntsExactSpec.pre enc Tryz.prog Tryz.f3 [] false w args ∧ laidMetH Tryz.prog Rows.fnSubIntsExactRow.laid w) ∧ sizedMet enc Tryz.prog Tryz.f3 (OpenSpec.ofChange Rows.fnSubIntsExactSpec) false w args)
      (Rows.fnSubIntsExactSpec.post enc Tryz.prog Tryz.f3 false true false false) := by
  refine returnsInHanded_of_change_and (C := Tryz.checked) (X := fun w _ => laidMetH Tryz.prog Rows.fnSubIntsExactRow.laid w) (fun _ _ _ hh h => h.of_heap hh) own started (by as_aux_lemma => kernel_rfl) Tryz.func3
    (ChangeSpec.witness_shaped (enc := enc) (C := Tryz.checked) (os := os) (X := fun w _ => laidMetH Tryz.prog Rows.fnSubIntsExactRow.laid w) false (World.laidAll Tryz.prog os Rows.fnSubIntsExactRow.laid) #[.int .i64 0, .int .i64 0] 8 (World.laidAll_os _ _ _)
      (World.shaped_of_ZipB (by as_aux_lemma => kernel_rfl) (by as_aux_lemma => kernel_rfl)) (by as_aux_lemma => kernel_rfl) (by as_aux_lemma => kernel_rfl) (by as_aux_lemma => kernel_rfl)
      (by rw [MakeChecks.laidMetH_plain _ _ _ (by as_aux_lemma => kernel_rfl)]; exact laidMet_laidAll _ (by as_aux_lemma => kernel_rfl) (by as_aux_lemma => kernel_rfl))) ?_
  intro W base args ds gs before hval0 hW _ _ hL _
  have hval : ∀ (j : Nat) t v, Tryz.f3.params[j]? = some t → args[j]? = some v → Value.okWide Tryz.prog W .any base t v := hval0
  have hW' := hW
  have hlt0 : ∀ x ∈ before, x.block < W.heap.size := fun x hx => hW.lt x hx
  obtain ⟨p, q, hA0, hV, rfl, _, _⟩ := hW
  have hA : DataW.TrodAll enc Tryz.prog W 0 (fun _ => true) true Tryz.f3.params.toList args.toList ds p := hA0
  rw [Tryz.params3] at hA hval
  obtain ⟨v1, vs1, d1, ds1, p1, q1, hargs, rfl, _, h1, r1⟩ := trodAll_cons hA
  obtain ⟨v2, vs2, d2, ds2, p2, q2, rfl, rfl, _, h2, r2⟩ := trodAll_cons r1
  obtain ⟨rfl, rfl, _⟩ := trodAll_nil r2
  obtain rfl : args = #[v1, v2] := by cases args; simp_all
  obtain ⟨g1, g2, g3, g4, g5, g6, g7, rfl⟩ := list_of_7 (trodVars_length hV)
  obtain ⟨a1, rfl, _, _, w1⟩ := open_int Tryz.underlying3 (hval 0 _ v1 rfl rfl) h1
  have b1 : -9223372036854775808 ≤ a1 ∧ a1 ≤ 9223372036854775807 := by simpa [Lit.wf, IntKind.min, IntKind.max, IntKind.signed, IntKind.bits] using w1
  obtain ⟨a2, rfl, _, _, w2⟩ := open_int Tryz.underlying3 (hval 1 _ v2 rfl rfl) h2
  have b2 : -9223372036854775808 ≤ a2 ∧ a2 ≤ 9223372036854775807 := by simpa [Lit.wf, IntKind.min, IntKind.max, IntKind.signed, IntKind.bits] using w2
  refine (law_SE W a1 b1 a2 b2).mono fun e W' ⟨he, hb⟩ => ?_
  subst he
  refine ⟨_, rfl, _, _, _, [], p, q, hW', trodAll_mk1 (shut_bool Tryz.underlying4 _), ?_, ?_, hb.frame _, fun h => by cases h⟩
  · exact below_trodAll laidOut hb (by as_aux_lemma => kernel_rfl) hA0 (fun x hx => hlt0 x (by simp [hx]))
  · exact Below.trodVars laidOut hb (by as_aux_lemma => kernel_rfl) hV
theorem closed_SE : joinedFacts Tryz.pinned.checked.prog 3 Tryz.f3 Rows.fnSubIntsExactSpec Rows.fnSubIntsExactRow = true := by
  unfold joinedFacts
  repeat' (with_reducible apply band)
  all_goals (as_aux_lemma => kernel_rfl)
theorem holds_SE : Rows.FnSubIntsExactSaid :=
  OpenClaim.holds_of_wide 3 Tryz.f3 rfl rfl rfl rfl rfl rfl rfl ⟨rfl, rfl, rfl, rfl, rfl⟩ rfl rfl rfl rfl rfl (by as_aux_lemma => kernel_rfl) Tryz.func3 closed_SE
    (of_decide_eq_true (by as_aux_lemma => kernel_rfl)) (by unfold Func.isWrapper; rw [if_neg (of_decide_eq_false (by as_aux_lemma => kernel_rfl))]; exact ⟨rfl, rfl⟩)
    (fun os started H enc _ => lifted_SE os started H enc)
theorem card_SE : Rows.FnSubIntsExactCardSaid :=
  Claim7.holds_tied_plain_at .later [] [.data, .data, .widerDeep, .widerDeep, .data, .data, .data, .data, .data, .sentinel, .sentinel, .sentinel, .sentinel, .sentinel, .data, .data, .data, .data, .data, .pinned, .pinned] true (true, "0257ba0edee76f8a16352b2f0d37205e710a83f7b0fd31b40ad4554e2ba67029") true holds_SE (fun _ h => by cases h) (by as_aux_lemma => kernel_rfl) (fun _ h => by cases h) fnSubIntsExact_row_tie rfl ⟨rfl, rfl⟩ (by as_aux_lemma => kernel_rfl) rfl
    (fun f fn hf hfn => by
      obtain rfl : f = 3 := Option.some.inj ((show Tryz.prog.funcNamed "github.com/itchyny/gojq/n001_19.FnSubIntsExact" = some 3 by as_aux_lemma => kernel_rfl).symm.trans hf) |>.symm
      obtain rfl : fn = Tryz.f3 := (Option.some.inj (Tryz.func3.symm.trans hfn)).symm
      exact ⟨by as_aux_lemma => kernel_rfl, fun j t ht => by
        rw [Tryz.params3] at ht
        have hm : t ∈ [3, 3] := by simpa using Array.mem_of_getElem? ht
        have hall : ([3, 3].all fun u => !Tryz.prog.wantsStandIn u) = true := by as_aux_lemma => kernel_rfl
        exact (show Tryz.prog.wantsStandIn t = false by simpa using List.all_eq_true.1 hall t hm)⟩)
    (by as_aux_lemma => kernel_rfl)
#print axioms card_SE
end Go.Proofs.YtfgepnbfideliaaGreatDoor
