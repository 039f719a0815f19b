/- For any matrix and any two paths, FnGetpathNullAndRefusalPersist returns true. -/
import Derived.Test.YtfgepnbfideliaaGreatDoorGpf42
import Derived.Test.YtfgepnbfideliaaGreatDoorFrame
import Derived.Test.YtfgepnbfideliaaGreatDoorMat
import Derived.Test.YtfgepnbfideliaaGreatDoorTie
import Derived.Test.YtfgepnbfideliaaGreatDoorCards
namespace Go.Proofs.YtfgepnbfideliaaGreatDoor
open Go.ChangeShapes Go.WideShapes Go.ChangeAt Go.RowKit
open Go.ChangeMaps (open_string)
set_option maxRecDepth 100000
set_option maxHeartbeats 40000000
theorem lifted_GP (os : Os) (started : os.Started) (H : Type) (enc : TypeId × Value → H) :
    ReturnsInHanded {} Tryz.checked os 7 .any (fun w args => (Rows.fnGetpathNullAndRefusalPersistSpec.pre enc Tryz.prog Tryz.f7 [] false w args ∧ laidMetH Tryz.prog Rows.fnGetpathNullAndRefusalPersistRow.laid w) ∧ sizedMet enc Tryz.prog Tryz.f7 (OpenSpec.ofChange Rows.fnGetpathNullAndRefusalPersistSpec) false w args)
      (Rows.fnGetpathNullAndRefusalPersistSpec.post enc Tryz.prog Tryz.f7 false true false false) := by
  refine returnsInHanded_of_change_and (C := Tryz.checked) (X := fun w _ => laidMetH Tryz.prog Rows.fnGetpathNullAndRefusalPersistRow.laid w) (fun _ _ _ hh h => h.of_heap hh) own started (by as_aux_lemma => kernel_rfl) Tryz.func7
    (ChangeSpec.witness_shaped (enc := enc) (C := Tryz.checked) (os := os) (X := fun w _ => laidMetH Tryz.prog Rows.fnGetpathNullAndRefusalPersistRow.laid w) false (World.laidAll Tryz.prog os Rows.fnGetpathNullAndRefusalPersistRow.laid) #[.slice none 0 0, .slice none 0 0, .slice none 0 0, .slice none 0 0, .slice none 0 0, .string ⟨#[]⟩] 8 (World.laidAll_os _ _ _)
      (World.shaped_of_ZipB (by as_aux_lemma => kernel_rfl) (by as_aux_lemma => kernel_rfl)) (by as_aux_lemma => kernel_rfl) (by as_aux_lemma => kernel_rfl) (by as_aux_lemma => kernel_rfl)
      (by rw [MakeChecks.laidMetH_plain _ _ _ (by as_aux_lemma => kernel_rfl)]; exact laidMet_laidAll _ (by as_aux_lemma => kernel_rfl) (by as_aux_lemma => kernel_rfl))) ?_
  intro W base args ds gs before hval0 hW _ _ hL _
  have hval : ∀ (j : Nat) t v, Tryz.f7.params[j]? = some t → args[j]? = some v → Value.okWide Tryz.prog W .any base t v := hval0
  have hW' := hW
  have hlt0 : ∀ x ∈ before, x.block < W.heap.size := fun x hx => hW.lt x hx
  obtain ⟨p, q, hA0, hV, rfl, _, _⟩ := hW
  have hA : DataW.TrodAll enc Tryz.prog W 0 (fun _ => true) true Tryz.f7.params.toList args.toList ds p := hA0
  rw [Tryz.params7] at hA hval
  obtain ⟨v1, vs1, d1, ds1, p1, q1, hargs, rfl, _, h1, r1⟩ := trodAll_cons hA
  obtain ⟨v2, vs2, d2, ds2, p2, q2, rfl, rfl, _, h2, r2⟩ := trodAll_cons r1
  obtain ⟨v3, vs3, d3, ds3, p3, q3, rfl, rfl, _, h3, r3⟩ := trodAll_cons r2
  obtain ⟨v4, vs4, d4, ds4, p4, q4, rfl, rfl, _, h4, r4⟩ := trodAll_cons r3
  obtain ⟨v5, vs5, d5, ds5, p5, q5, rfl, rfl, _, h5, r5⟩ := trodAll_cons r4
  obtain ⟨v6, vs6, d6, ds6, p6, q6, rfl, rfl, _, h6, r6⟩ := trodAll_cons r5
  obtain ⟨rfl, rfl, _⟩ := trodAll_nil r6
  obtain rfl : args = #[v1, v2, v3, v4, v5, v6] := by cases args; simp_all
  obtain ⟨g1, g2, g3, g4, g5, g6, g7, rfl⟩ := list_of_7 (trodVars_length hV)
  obtain ⟨a1, c11, c21, rfl, g1, w1, u1⟩ := open_intsLL Tryz.underlying47 Tryz.underlying32 Tryz.underlying3 (by as_aux_lemma => kernel_rfl) (by as_aux_lemma => kernel_rfl) (hval 0 _ v1 rfl rfl) h1
  obtain ⟨a2, c12, c22, rfl, g2, w2, u2⟩ := open_intsL Tryz.underlying32 Tryz.underlying3 (by as_aux_lemma => kernel_rfl) (hval 1 _ v2 rfl rfl) h2
  obtain ⟨a3, c13, c23, rfl, g3, w3, u3⟩ := open_boolsL Tryz.underlying48 Tryz.underlying4 (by as_aux_lemma => kernel_rfl) (hval 2 _ v3 rfl rfl) h3
  obtain ⟨a4, c14, c24, rfl, g4, w4, u4⟩ := open_intsL Tryz.underlying32 Tryz.underlying3 (by as_aux_lemma => kernel_rfl) (hval 3 _ v4 rfl rfl) h4
  obtain ⟨a5, c15, c25, rfl, g5, w5, u5⟩ := open_boolsL Tryz.underlying48 Tryz.underlying4 (by as_aux_lemma => kernel_rfl) (hval 4 _ v5 rfl rfl) h5
  obtain ⟨a6, rfl, _, _, w6⟩ := open_string Tryz.underlying9 (hval 5 _ v6 rfl rfl) h6
  have b6 : (a6.size : Int) ≤ 9223372036854775807 := by unfold maxLen at w6; omega
  refine (law_GP W a1 c11 c21 g1 w1 u1 a2 c12 c22 g2 w2 u2 a3 c13 c23 g3 w3 u3 a4 c14 c24 g4 w4 u4 a5 c15 c25 g5 w5 u5 a6 b6).mono fun e W' ⟨he, hb⟩ => ?_
  subst he
  refine ⟨_, rfl, _, _, _, [], p, q, hW', trodAll_mk1 (shut_bool Tryz.underlying4 _), ?_, ?_, hb.frame _, fun h => by cases h⟩
  · exact below_trodAll laidOut hb (by as_aux_lemma => kernel_rfl) hA0 (fun x hx => hlt0 x (by simp [hx]))
  · exact Below.trodVars laidOut hb (by as_aux_lemma => kernel_rfl) hV
theorem closed_GP : joinedFacts Tryz.pinned.checked.prog 7 Tryz.f7 Rows.fnGetpathNullAndRefusalPersistSpec Rows.fnGetpathNullAndRefusalPersistRow = true := by
  unfold joinedFacts
  repeat' (with_reducible apply band)
  all_goals (as_aux_lemma => kernel_rfl)
theorem holds_GP : Rows.FnGetpathNullAndRefusalPersistSaid :=
  OpenClaim.holds_of_wide 7 Tryz.f7 rfl rfl rfl rfl rfl rfl rfl ⟨rfl, rfl, rfl, rfl, rfl⟩ rfl rfl rfl rfl rfl (by as_aux_lemma => kernel_rfl) Tryz.func7 closed_GP
    (of_decide_eq_true (by as_aux_lemma => kernel_rfl)) (by unfold Func.isWrapper; rw [if_neg (of_decide_eq_false (by as_aux_lemma => kernel_rfl))]; exact ⟨rfl, rfl⟩)
    (fun os started H enc _ => lifted_GP os started H enc)
theorem card_GP : Rows.FnGetpathNullAndRefusalPersistCardSaid :=
  Claim7.holds_tied_plain_at .later [] [.data, .data, .widerDeep, .widerDeep, .data, .data, .data, .data, .data, .sentinel, .sentinel, .sentinel, .sentinel, .sentinel, .data, .data, .data, .data, .data, .pinned, .pinned] true (true, "0257ba0edee76f8a16352b2f0d37205e710a83f7b0fd31b40ad4554e2ba67029") true holds_GP (fun _ h => by cases h) (by as_aux_lemma => kernel_rfl) (fun _ h => by cases h) fnGetpathNullAndRefusalPersist_row_tie rfl ⟨rfl, rfl⟩ (by as_aux_lemma => kernel_rfl) rfl
    (fun f fn hf hfn => by
      obtain rfl : f = 7 := Option.some.inj ((show Tryz.prog.funcNamed "github.com/itchyny/gojq/n001_42.FnGetpathNullAndRefusalPersist" = some 7 by as_aux_lemma => kernel_rfl).symm.trans hf) |>.symm
      obtain rfl : fn = Tryz.f7 := (Option.some.inj (Tryz.func7.symm.trans hfn)).symm
      exact ⟨by as_aux_lemma => kernel_rfl, fun j t ht => by
        rw [Tryz.params7] at ht
        have hm : t ∈ [47, 32, 48, 32, 48, 9] := by simpa using Array.mem_of_getElem? ht
        have hall : ([47, 32, 48, 32, 48, 9].all fun u => !Tryz.prog.wantsStandIn u) = true := by as_aux_lemma => kernel_rfl
        exact (show Tryz.prog.wantsStandIn t = false by simpa using List.all_eq_true.1 hall t hm)⟩)
    (by as_aux_lemma => kernel_rfl)
#print axioms card_GP
end Go.Proofs.YtfgepnbfideliaaGreatDoor
