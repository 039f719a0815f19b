/- FnIndex2ObjectLookup returns true on every input: a key's value in an object is the last binding of the key, and null where it has none -/
import Derived.Test.YtfgepnbfideliaaGreatDoorIo16L
import Derived.Test.YtfgepnbfideliaaGreatDoorFrame
import Derived.Test.YtfgepnbfideliaaGreatDoorTie
import Derived.Test.YtfgepnbfideliaaGreatDoorCards
namespace Go.Proofs.YtfgepnbfideliaaGreatDoor
open Go.ChangeShapes Go.WideShapes Go.ChangeAt Go.RowKit
open Go.ChangeMaps (open_string)
set_option maxRecDepth 100000
set_option maxHeartbeats 40000000
theorem lifted_IO (os : Os) (started : os.Started) (H : Type) (enc : TypeId × Value → H) :
    ReturnsInHanded {} Tryz.checked os 6 .any (fun w args => (Rows.fnIndex2ObjectLookupSpec.pre enc Tryz.prog Tryz.f6 [] false w args ∧ laidMetH Tryz.prog Rows.fnIndex2ObjectLookupRow.laid w) ∧ sizedMet enc Tryz.prog Tryz.f6 (OpenSpec.ofChange Rows.fnIndex2ObjectLookupSpec) false w args)
      (Rows.fnIndex2ObjectLookupSpec.post enc Tryz.prog Tryz.f6 false true false false) := by
  refine returnsInHanded_of_change_and (C := Tryz.checked) (X := fun w _ => laidMetH Tryz.prog Rows.fnIndex2ObjectLookupRow.laid w) (fun _ _ _ hh h => h.of_heap hh) own started (by as_aux_lemma => kernel_rfl) Tryz.func6
    (ChangeSpec.witness_shaped (enc := enc) (C := Tryz.checked) (os := os) (X := fun w _ => laidMetH Tryz.prog Rows.fnIndex2ObjectLookupRow.laid w) false (World.laidAll Tryz.prog os Rows.fnIndex2ObjectLookupRow.laid) #[.slice none 0 0, .slice none 0 0, .string ⟨#[]⟩] 8 (World.laidAll_os _ _ _)
      (World.shaped_of_ZipB (by as_aux_lemma => kernel_rfl) (by as_aux_lemma => kernel_rfl)) (by as_aux_lemma => kernel_rfl) (by as_aux_lemma => kernel_rfl) (by as_aux_lemma => kernel_rfl)
      (by rw [MakeChecks.laidMetH_plain _ _ _ (by as_aux_lemma => kernel_rfl)]; exact laidMet_laidAll _ (by as_aux_lemma => kernel_rfl) (by as_aux_lemma => kernel_rfl))) ?_
  intro W base args ds gs before hval0 hW _ _ hL _
  have hval : ∀ (j : Nat) t v, Tryz.f6.params[j]? = some t → args[j]? = some v → Value.okWide Tryz.prog W .any base t v := hval0
  have hW' := hW
  have hlt0 : ∀ x ∈ before, x.block < W.heap.size := fun x hx => hW.lt x hx
  obtain ⟨p, q, hA0, hV, rfl, _, _⟩ := hW
  have hA : DataW.TrodAll enc Tryz.prog W 0 (fun _ => true) true Tryz.f6.params.toList args.toList ds p := hA0
  rw [Tryz.params6] at hA hval
  obtain ⟨v1, vs1, d1, ds1, p1, q1, hargs, rfl, _, h1, r1⟩ := trodAll_cons hA
  obtain ⟨v2, vs2, d2, ds2, p2, q2, rfl, rfl, _, h2, r2⟩ := trodAll_cons r1
  obtain ⟨v3, vs3, d3, ds3, p3, q3, rfl, rfl, _, h3, r3⟩ := trodAll_cons r2
  obtain ⟨rfl, rfl, _⟩ := trodAll_nil r3
  obtain rfl : args = #[v1, v2, v3] := by cases args; simp_all
  obtain ⟨g1, g2, g3, g4, g5, g6, g7, rfl⟩ := list_of_7 (trodVars_length hV)
  obtain ⟨a1, c11, c21, rfl, g1, w1, u1⟩ := open_strsL Tryz.underlying44 Tryz.underlying9 (by as_aux_lemma => kernel_rfl) (hval 0 _ v1 rfl rfl) h1
  obtain ⟨a2, c12, c22, rfl, g2, w2, u2⟩ := open_intsL Tryz.underlying32 Tryz.underlying3 (by as_aux_lemma => kernel_rfl) (hval 1 _ v2 rfl rfl) h2
  obtain ⟨a3, rfl, _, _, w3⟩ := open_string Tryz.underlying9 (hval 2 _ v3 rfl rfl) h3
  have b3 : (a3.size : Int) ≤ 9223372036854775807 := by unfold maxLen at w3; omega
  refine (law_IO W a1 c11 c21 g1 w1 u1 a2 c12 c22 g2 w2 u2 a3 b3).mono fun e W' ⟨he, hb⟩ => ?_
  subst he
  refine ⟨_, rfl, _, _, _, [], p, q, hW', trodAll_mk1 (shut_bool Tryz.underlying4 _), ?_, ?_, hb.frame _, fun h => by cases h⟩
  · exact below_trodAll laidOut hb (by as_aux_lemma => kernel_rfl) hA0 (fun x hx => hlt0 x (by simp [hx]))
  · exact Below.trodVars laidOut hb (by as_aux_lemma => kernel_rfl) hV
theorem closed_IO : joinedFacts Tryz.pinned.checked.prog 6 Tryz.f6 Rows.fnIndex2ObjectLookupSpec Rows.fnIndex2ObjectLookupRow = true := by
  unfold joinedFacts
  repeat' (with_reducible apply band)
  all_goals (as_aux_lemma => kernel_rfl)
theorem holds_IO : Rows.FnIndex2ObjectLookupSaid :=
  OpenClaim.holds_of_wide 6 Tryz.f6 rfl rfl rfl rfl rfl rfl rfl ⟨rfl, rfl, rfl, rfl, rfl⟩ rfl rfl rfl rfl rfl (by as_aux_lemma => kernel_rfl) Tryz.func6 closed_IO
    (of_decide_eq_true (by as_aux_lemma => kernel_rfl)) (by unfold Func.isWrapper; rw [if_neg (of_decide_eq_false (by as_aux_lemma => kernel_rfl))]; exact ⟨rfl, rfl⟩)
    (fun os started H enc _ => lifted_IO os started H enc)
theorem card_IO : Rows.FnIndex2ObjectLookupCardSaid :=
  Claim7.holds_tied_plain_at .later [] [.data, .data, .widerDeep, .widerDeep, .data, .data, .data, .data, .data, .sentinel, .sentinel, .sentinel, .sentinel, .sentinel, .data, .data, .data, .data, .data, .pinned, .pinned] true (true, "0257ba0edee76f8a16352b2f0d37205e710a83f7b0fd31b40ad4554e2ba67029") true holds_IO (fun _ h => by cases h) (by as_aux_lemma => kernel_rfl) (fun _ h => by cases h) fnIndex2ObjectLookup_row_tie rfl ⟨rfl, rfl⟩ (by as_aux_lemma => kernel_rfl) rfl
    (fun f fn hf hfn => by
      obtain rfl : f = 6 := Option.some.inj ((show Tryz.prog.funcNamed "github.com/itchyny/gojq/n001_16.FnIndex2ObjectLookup" = some 6 by as_aux_lemma => kernel_rfl).symm.trans hf) |>.symm
      obtain rfl : fn = Tryz.f6 := (Option.some.inj (Tryz.func6.symm.trans hfn)).symm
      exact ⟨by as_aux_lemma => kernel_rfl, fun j t ht => by
        rw [Tryz.params6] at ht
        have hm : t ∈ [44, 32, 9] := by simpa using Array.mem_of_getElem? ht
        have hall : ([44, 32, 9].all fun u => !Tryz.prog.wantsStandIn u) = true := by as_aux_lemma => kernel_rfl
        exact (show Tryz.prog.wantsStandIn t = false by simpa using List.all_eq_true.1 hall t hm)⟩)
    (by as_aux_lemma => kernel_rfl)
#print axioms card_IO
end Go.Proofs.YtfgepnbfideliaaGreatDoor
