/- FnArgFunc2CallsFWithTwoArgs returns true on every input: the callback of argFunc2 over index2 gives the character of the string at the index, and nil where there is none -/
import Derived.Test.YtlhgfijpagfhpabGreatDoorCa24
import Derived.Test.YtlhgfijpagfhpabGreatDoorFrame
import Derived.Test.YtlhgfijpagfhpabGreatDoorTie
import Derived.Test.YtlhgfijpagfhpabGreatDoorCards
namespace Go.Proofs.YtlhgfijpagfhpabGreatDoor
open Go.ChangeShapes Go.WideShapes Go.ChangeAt Go.RowKit
open Go.ChangeMaps (open_string)
set_option maxRecDepth 100000
set_option maxHeartbeats 40000000
theorem lifted_CA (os : Os) (started : os.Started) (H : Type) (enc : TypeId × Value → H) :
    ReturnsInHanded {} Tryz.checked os 5 .any (fun w args => (Rows.fnArgFunc2CallsFWithTwoArgsSpec.pre enc Tryz.prog Tryz.f5 [] false w args ∧ laidMetH Tryz.prog Rows.fnArgFunc2CallsFWithTwoArgsRow.laid w) ∧ sizedMet enc Tryz.prog Tryz.f5 (OpenSpec.ofChange Rows.fnArgFunc2CallsFWithTwoArgsSpec) false w args)
      (Rows.fnArgFunc2CallsFWithTwoArgsSpec.post enc Tryz.prog Tryz.f5 false true false false) := by
  refine returnsInHanded_of_change_and (C := Tryz.checked) (X := fun w _ => laidMetH Tryz.prog Rows.fnArgFunc2CallsFWithTwoArgsRow.laid w) (fun _ _ _ hh h => h.of_heap hh) own started (by as_aux_lemma => kernel_rfl) Tryz.func5
    (ChangeSpec.witness_shaped (enc := enc) (C := Tryz.checked) (os := os) (X := fun w _ => laidMetH Tryz.prog Rows.fnArgFunc2CallsFWithTwoArgsRow.laid w) false (World.laidAll Tryz.prog os Rows.fnArgFunc2CallsFWithTwoArgsRow.laid) #[.string ⟨#[]⟩, .string ⟨#[]⟩, .int .i64 0, .slice none 0 0] 8 (World.laidAll_os _ _ _)
      (World.shaped_of_ZipB (by as_aux_lemma => kernel_rfl) (by as_aux_lemma => kernel_rfl)) (by as_aux_lemma => kernel_rfl) (by as_aux_lemma => kernel_rfl) (by as_aux_lemma => kernel_rfl)
      (by rw [MakeChecks.laidMetH_plain _ _ _ (by as_aux_lemma => kernel_rfl)]; exact laidMet_laidAll _ (by as_aux_lemma => kernel_rfl) (by as_aux_lemma => kernel_rfl))) ?_
  intro W base args ds gs before hval0 hW _ _ hL _
  have hval : ∀ (j : Nat) t v, Tryz.f5.params[j]? = some t → args[j]? = some v → Value.okWide Tryz.prog W .any base t v := hval0
  have hW' := hW
  have hlt0 : ∀ x ∈ before, x.block < W.heap.size := fun x hx => hW.lt x hx
  obtain ⟨p, q, hA0, hV, rfl, _, _⟩ := hW
  have hA : DataW.TrodAll enc Tryz.prog W 0 (fun _ => true) true Tryz.f5.params.toList args.toList ds p := hA0
  rw [Tryz.params5] at hA hval
  obtain ⟨v1, vs1, d1, ds1, p1, q1, hargs, rfl, _, h1, r1⟩ := trodAll_cons hA
  obtain ⟨v2, vs2, d2, ds2, p2, q2, rfl, rfl, _, h2, r2⟩ := trodAll_cons r1
  obtain ⟨v3, vs3, d3, ds3, p3, q3, rfl, rfl, _, h3, r3⟩ := trodAll_cons r2
  obtain ⟨v4, vs4, d4, ds4, p4, q4, rfl, rfl, _, h4, r4⟩ := trodAll_cons r3
  obtain ⟨rfl, rfl, _⟩ := trodAll_nil r4
  obtain rfl : args = #[v1, v2, v3, v4] := by cases args; simp_all
  obtain ⟨g1, g2, g3, g4, g5, g6, g7, rfl⟩ := list_of_7 (trodVars_length hV)
  obtain ⟨a1, rfl, _, _, w1⟩ := open_string Tryz.underlying9 (hval 0 _ v1 rfl rfl) h1
  have b1 : (a1.size : Int) ≤ 9223372036854775807 := by unfold maxLen at w1; omega
  obtain ⟨a2, rfl, _, _, w2⟩ := open_string Tryz.underlying9 (hval 1 _ v2 rfl rfl) h2
  have b2 : (a2.size : Int) ≤ 9223372036854775807 := by unfold maxLen at w2; omega
  obtain ⟨a3, rfl, _, _, w3⟩ := open_int Tryz.underlying3 (hval 2 _ v3 rfl rfl) h3
  have b3 : -9223372036854775808 ≤ a3 ∧ a3 ≤ 9223372036854775807 := by simpa [Lit.wf, IntKind.min, IntKind.max, IntKind.signed, IntKind.bits] using w3
  obtain ⟨a4, c14, c24, rfl, g4, w4, u4⟩ := open_intsL Tryz.underlying22 Tryz.underlying3 (by as_aux_lemma => kernel_rfl) (hval 3 _ v4 rfl rfl) h4
  refine (law_CA W a1 b1 a2 b2 a3 b3 a4 c14 c24 g4 w4 u4).mono fun e W' ⟨he, hb⟩ => ?_
  subst he
  refine ⟨_, rfl, _, _, _, [], p, q, hW', trodAll_mk1 (shut_bool Tryz.underlying4 _), ?_, ?_, hb.frame _, fun h => by cases h⟩
  · exact below_trodAll laidOut hb (by as_aux_lemma => kernel_rfl) hA0 (fun x hx => hlt0 x (by simp [hx]))
  · exact Below.trodVars laidOut hb (by as_aux_lemma => kernel_rfl) hV
theorem closed_CA : joinedFacts Tryz.pinned.checked.prog 5 Tryz.f5 Rows.fnArgFunc2CallsFWithTwoArgsSpec Rows.fnArgFunc2CallsFWithTwoArgsRow = true := by
  unfold joinedFacts
  repeat' (with_reducible apply band)
  all_goals (as_aux_lemma => kernel_rfl)
theorem holds_CA : Rows.FnArgFunc2CallsFWithTwoArgsSaid :=
  OpenClaim.holds_of_wide 5 Tryz.f5 rfl rfl rfl rfl rfl rfl rfl ⟨rfl, rfl, rfl, rfl, rfl⟩ rfl rfl rfl rfl rfl (by as_aux_lemma => kernel_rfl) Tryz.func5 closed_CA
    (of_decide_eq_true (by as_aux_lemma => kernel_rfl)) (by unfold Func.isWrapper; rw [if_neg (of_decide_eq_false (by as_aux_lemma => kernel_rfl))]; exact ⟨rfl, rfl⟩)
    (fun os started H enc _ => lifted_CA os started H enc)
theorem card_CA : Rows.FnArgFunc2CallsFWithTwoArgsCardSaid :=
  Claim7.holds_tied_plain_at .later [] [.data, .data, .widerDeep, .widerDeep, .data, .data, .data, .data, .data, .sentinel, .sentinel, .sentinel, .sentinel, .sentinel, .data, .data, .data, .data, .data, .pinned, .pinned] true (true, "5e46583f47df1f0164af2c9f85a5ed1e9308615aefc757925046aa4dc901cc67") true holds_CA (fun _ h => by cases h) (by as_aux_lemma => kernel_rfl) (fun _ h => by cases h) fnArgFunc2CallsFWithTwoArgs_row_tie rfl ⟨rfl, rfl⟩ (by as_aux_lemma => kernel_rfl) rfl
    (fun f fn hf hfn => by
      obtain rfl : f = 5 := Option.some.inj ((show Tryz.prog.funcNamed "github.com/itchyny/gojq/n001_24.FnArgFunc2CallsFWithTwoArgs" = some 5 by as_aux_lemma => kernel_rfl).symm.trans hf) |>.symm
      obtain rfl : fn = Tryz.f5 := (Option.some.inj (Tryz.func5.symm.trans hfn)).symm
      exact ⟨by as_aux_lemma => kernel_rfl, fun j t ht => by
        rw [Tryz.params5] at ht
        have hm : t ∈ [9, 9, 3, 22] := by simpa using Array.mem_of_getElem? ht
        have hall : ([9, 9, 3, 22].all fun u => !Tryz.prog.wantsStandIn u) = true := by as_aux_lemma => kernel_rfl
        exact (show Tryz.prog.wantsStandIn t = false by simpa using List.all_eq_true.1 hall t hm)⟩)
    (by as_aux_lemma => kernel_rfl)
#print axioms card_CA
end Go.Proofs.YtlhgfijpagfhpabGreatDoor
