/- FnCompareAntisymmetric returns true for every input and leaves its arguments as they read before. Conditions: none beside the row's own cells; the listed package variables are tied by the card. -/
import Derived.Test.YtmfigefooicgiaaGreatDoorAS44
import Derived.Test.YtmfigefooicgiaaGreatDoorFrame
import Derived.Test.YtmfigefooicgiaaGreatDoorTie
import Derived.Test.YtmfigefooicgiaaGreatDoorCards
namespace Go.Proofs.YtmfigefooicgiaaGreatDoor
open Go.ChangeShapes Go.WideShapes Go.ChangeAt Go.RowKit
open Go.ChangeMaps (open_string)
set_option maxRecDepth 100000
theorem lifted_AS (os : Os) (started : os.Started) (H : Type) (enc : TypeId × Value → H) :
    ReturnsInHanded {} Tryz.checked os 4 .any (fun w args => (Rows.fnCompareAntisymmetricSpec.pre enc Tryz.prog Tryz.f4 [] false w args ∧ laidMetH Tryz.prog Rows.fnCompareAntisymmetricRow.laid w) ∧ sizedMet enc Tryz.prog Tryz.f4 (OpenSpec.ofChange Rows.fnCompareAntisymmetricSpec) false w args)
      (Rows.fnCompareAntisymmetricSpec.post enc Tryz.prog Tryz.f4 false true false false) := by
  refine returnsInHanded_of_change_and (C := Tryz.checked) (X := fun w _ => laidMetH Tryz.prog Rows.fnCompareAntisymmetricRow.laid w) (fun _ _ _ hh h => h.of_heap hh) own started (by kernel_rfl) Tryz.func4
    (ChangeSpec.witness_shaped (enc := enc) (C := Tryz.checked) (os := os) (X := fun w _ => laidMetH Tryz.prog Rows.fnCompareAntisymmetricRow.laid w) false (World.laidAll Tryz.prog os Rows.fnCompareAntisymmetricRow.laid) #[.int .i64 0, .bool false, .int .i64 0, .float .f64 0, .string ⟨#[]⟩, .slice none 0 0, .int .i64 0, .bool false, .int .i64 0, .float .f64 0, .string ⟨#[]⟩, .slice none 0 0] 8 (World.laidAll_os _ _ _)
      (World.shaped_of_ZipB (by kernel_rfl) (by kernel_rfl)) (by kernel_rfl) (by kernel_rfl) (by kernel_rfl)
      (by rw [MakeChecks.laidMetH_plain _ _ _ (by kernel_rfl)]; exact laidMet_laidAll _ (by kernel_rfl) (by kernel_rfl))) ?_
  intro W base args ds gs before hval0 hW _ _ hL _
  have hval : ∀ (j : Nat) t v, Tryz.f4.params[j]? = some t → args[j]? = some v → Value.okWide Tryz.prog W .any base t v := hval0
  have hW' := hW
  have hlt0 : ∀ x ∈ before, x.block < W.heap.size := fun x hx => hW.lt x hx
  obtain ⟨p, q, hA0, hV, rfl, _, _⟩ := hW
  have hA : DataW.TrodAll enc Tryz.prog W 0 (fun _ => true) true Tryz.f4.params.toList args.toList ds p := hA0
  rw [Tryz.params4] at hA hval
  obtain ⟨v1, vs1, d1, ds1, p1, q1, hargs, rfl, _, h1, r1⟩ := trodAll_cons hA
  obtain ⟨v2, vs2, d2, ds2, p2, q2, rfl, rfl, _, h2, r2⟩ := trodAll_cons r1
  obtain ⟨v3, vs3, d3, ds3, p3, q3, rfl, rfl, _, h3, r3⟩ := trodAll_cons r2
  obtain ⟨v4, vs4, d4, ds4, p4, q4, rfl, rfl, _, h4, r4⟩ := trodAll_cons r3
  obtain ⟨v5, vs5, d5, ds5, p5, q5, rfl, rfl, _, h5, r5⟩ := trodAll_cons r4
  obtain ⟨v6, vs6, d6, ds6, p6, q6, rfl, rfl, _, h6, r6⟩ := trodAll_cons r5
  obtain ⟨v7, vs7, d7, ds7, p7, q7, rfl, rfl, _, h7, r7⟩ := trodAll_cons r6
  obtain ⟨v8, vs8, d8, ds8, p8, q8, rfl, rfl, _, h8, r8⟩ := trodAll_cons r7
  obtain ⟨v9, vs9, d9, ds9, p9, q9, rfl, rfl, _, h9, r9⟩ := trodAll_cons r8
  obtain ⟨v10, vs10, d10, ds10, p10, q10, rfl, rfl, _, h10, r10⟩ := trodAll_cons r9
  obtain ⟨v11, vs11, d11, ds11, p11, q11, rfl, rfl, _, h11, r11⟩ := trodAll_cons r10
  obtain ⟨v12, vs12, d12, ds12, p12, q12, rfl, rfl, _, h12, r12⟩ := trodAll_cons r11
  obtain ⟨rfl, rfl, _⟩ := trodAll_nil r12
  obtain rfl : args = #[v1, v2, v3, v4, v5, v6, v7, v8, v9, v10, v11, v12] := by cases args; simp_all
  obtain ⟨g1, g2, g3, g4, g5, g6, g7, rfl⟩ := list_of_7 (trodVars_length hV)
  obtain ⟨a1, rfl, _, _, w1⟩ := open_int Tryz.underlying3 (hval 0 _ v1 rfl rfl) h1
  have b1 : -9223372036854775808 ≤ a1 ∧ a1 ≤ 9223372036854775807 := by simpa [Lit.wf, IntKind.min, IntKind.max, IntKind.signed, IntKind.bits] using w1
  obtain ⟨a2, rfl, _, _⟩ := open_bool Tryz.underlying4 (hval 1 _ v2 rfl rfl) h2
  obtain ⟨a3, rfl, _, _, w3⟩ := open_int Tryz.underlying3 (hval 2 _ v3 rfl rfl) h3
  have b3 : -9223372036854775808 ≤ a3 ∧ a3 ≤ 9223372036854775807 := by simpa [Lit.wf, IntKind.min, IntKind.max, IntKind.signed, IntKind.bits] using w3
  obtain ⟨a4, rfl, _, _, w4⟩ := open_float Tryz.underlying22 (hval 3 _ v4 rfl rfl) h4
  obtain ⟨a5, rfl, _, _, w5⟩ := open_string Tryz.underlying9 (hval 4 _ v5 rfl rfl) h5
  have b5 : (a5.size : Int) ≤ 9223372036854775807 := by unfold maxLen at w5; omega
  obtain ⟨a6, c16, c26, rfl, g6, w6, u6⟩ := open_intsL Tryz.underlying23 Tryz.underlying3 (by kernel_rfl) (hval 5 _ v6 rfl rfl) h6
  obtain ⟨a7, rfl, _, _, w7⟩ := open_int Tryz.underlying3 (hval 6 _ v7 rfl rfl) h7
  have b7 : -9223372036854775808 ≤ a7 ∧ a7 ≤ 9223372036854775807 := by simpa [Lit.wf, IntKind.min, IntKind.max, IntKind.signed, IntKind.bits] using w7
  obtain ⟨a8, rfl, _, _⟩ := open_bool Tryz.underlying4 (hval 7 _ v8 rfl rfl) h8
  obtain ⟨a9, rfl, _, _, w9⟩ := open_int Tryz.underlying3 (hval 8 _ v9 rfl rfl) h9
  have b9 : -9223372036854775808 ≤ a9 ∧ a9 ≤ 9223372036854775807 := by simpa [Lit.wf, IntKind.min, IntKind.max, IntKind.signed, IntKind.bits] using w9
  obtain ⟨a10, rfl, _, _, w10⟩ := open_float Tryz.underlying22 (hval 9 _ v10 rfl rfl) h10
  obtain ⟨a11, rfl, _, _, w11⟩ := open_string Tryz.underlying9 (hval 10 _ v11 rfl rfl) h11
  have b11 : (a11.size : Int) ≤ 9223372036854775807 := by unfold maxLen at w11; omega
  obtain ⟨a12, c112, c212, rfl, g12, w12, u12⟩ := open_intsL Tryz.underlying23 Tryz.underlying3 (by kernel_rfl) (hval 11 _ v12 rfl rfl) h12
  refine (law_AS W a1 b1 a2 a3 b3 a4 w4 a5 b5 a6 c16 c26 g6 w6 u6 a7 b7 a8 a9 b9 a10 w10 a11 b11 a12 c112 c212 g12 w12 u12).mono fun e W' ⟨he, hb⟩ => ?_
  subst he
  refine ⟨_, rfl, _, _, _, [], p, q, hW', trodAll_mk1 (shut_bool Tryz.underlying4 _), ?_, ?_, hb.frame _, fun h => by cases h⟩
  · exact below_trodAll laidOut hb (by kernel_rfl) hA0 (fun x hx => hlt0 x (by simp [hx]))
  · exact Below.trodVars laidOut hb (by kernel_rfl) hV
theorem holds_AS : Rows.FnCompareAntisymmetricSaid :=
  OpenClaim.holds_of_wide 4 Tryz.f4 rfl rfl rfl rfl rfl rfl rfl ⟨rfl, rfl, rfl, rfl, rfl⟩ rfl rfl rfl rfl rfl (by kernel_rfl) Tryz.func4 (by kernel_rfl)
    (of_decide_eq_true (by kernel_rfl)) (by unfold Func.isWrapper; rw [if_neg (of_decide_eq_false (by kernel_rfl))]; exact ⟨rfl, rfl⟩)
    (fun os started H enc _ => lifted_AS os started H enc)
theorem card_AS : Rows.FnCompareAntisymmetricCardSaid :=
  Claim7.holds_tied_plain_at .later [] [.data, .data, .widerDeep, .widerDeep, .data, .data, .data, .data, .data, .sentinel, .sentinel, .sentinel, .sentinel, .sentinel, .data, .data, .data, .data, .data, .pinned, .pinned] true (true, "3ebb03bfb34d9535f3edf59ac632e5131038dc542807c18f42b27338410144ff") true holds_AS (fun _ h => by cases h) (by kernel_rfl) (fun _ h => by cases h) fnCompareAntisymmetric_row_tie rfl ⟨rfl, rfl⟩ (by kernel_rfl) rfl
    (fun f fn hf hfn => by
      obtain rfl : f = 4 := Option.some.inj ((show Tryz.prog.funcNamed "github.com/itchyny/gojq/n001_44.FnCompareAntisymmetric" = some 4 by kernel_rfl).symm.trans hf) |>.symm
      obtain rfl : fn = Tryz.f4 := (Option.some.inj (Tryz.func4.symm.trans hfn)).symm
      exact ⟨by kernel_rfl, fun j t ht => by
        rw [Tryz.params4] at ht
        have hm : t ∈ [3, 4, 3, 22, 9, 23, 3, 4, 3, 22, 9, 23] := by simpa using Array.mem_of_getElem? ht
        have hall : ([3, 4, 3, 22, 9, 23, 3, 4, 3, 22, 9, 23].all fun u => !Tryz.prog.wantsStandIn u) = true := by kernel_rfl
        exact (show Tryz.prog.wantsStandIn t = false by simpa using List.all_eq_true.1 hall t hm)⟩)
    (by kernel_rfl)
#print axioms card_AS
end Go.Proofs.YtmfigefooicgiaaGreatDoor
