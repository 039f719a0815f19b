/- FnSortIntsMatchesInsertionSort and FnSortIntsIdempotent: they return true. -/
import Derived.Test.YtlhgfijpagfhpaaGreatDoorMod46
import Derived.Test.YtlhgfijpagfhpaaGreatDoorEq46
namespace Go.Proofs.YtlhgfijpagfhpaaGreatDoor
open Go.RowKit
set_option maxRecDepth 100000
set_option maxHeartbeats 4000000
theorem StableBy.unique {vs ks ys zs : List Int} (h1 : StableBy vs ks ys) (h2 : StableBy vs ks zs) : ys = zs := by
  obtain ⟨t, r1, s1, rfl⟩ := h1
  obtain ⟨u, r2, s2, rfl⟩ := h2
  have e := stable_unique r1 r2 s1 s2
  unfold Picked
  apply List.map_congr_left
  intro i hi
  rw [e i (List.mem_range.1 hi)]
theorem StableBy.again {xs ys : List Int} (h : StableBy xs xs ys) : StableBy ys ys ys := by
  obtain ⟨t, r, s, rfl⟩ := h
  have hl := Picked.len t xs
  have hg : ∀ i, i < xs.length → (Picked t xs).getD i 0 = keyP xs xs.length (t i) := fun i h => by
    rw [keyP_in xs (r.lt h)]; simp [Picked, List.getD, h]
  refine ⟨id, Re.refl _ _ _, fun i j _ h2 h3 => ?_, ?_⟩
  · rw [hl] at h3 ⊢
    have b := bef_le (s i j (Nat.zero_le _) h2 h3)
    unfold bef
    rw [id, id, keyP_in _ (show i < xs.length by omega), keyP_in _ h3, hg i (by omega), hg j h3]
    omega
  · apply List.ext_getElem
    · exact (Picked.len id _).symm
    · intro i h1 h2
      rw [Picked.get id (Picked t xs) h2]
      simp [List.getD, h1]
theorem bytesIM (p : Option Addr) (l c : Nat) (w : World) (hl : (l : Int) ≤ 9223372036854775807) (h : (l : Int) ≤ 1048576) :
    Calls Tryz.prog 12 #[.slice p l c] w fun e w' => e = .returned (.bool true) ∧ w = w' := by
  go_enter Tryz.func12, Tryz.ntmps12
  go_wp2
  go_ret
  exact ⟨rfl, rfl⟩
theorem bytesIM_no (p : Option Addr) (l c : Nat) (w : World) (hl : (l : Int) ≤ 9223372036854775807) (h : ¬ (l : Int) ≤ 1048576) :
    Calls Tryz.prog 12 #[.slice p l c] w fun e w' => e = .returned (.bool false) ∧ w = w' := by
  go_enter Tryz.func12, Tryz.ntmps12
  go_wp2
  all_goals
    go_ret
    exact ⟨rfl, rfl⟩
theorem law_IM (w : World) (xs : List Int) (p : Option Addr) (c : Nat) (hx : Ints w (.slice p xs.length c) xs) (hl : (xs.length : Int) ≤ 9223372036854775807) (_ : ∀ x ∈ xs, -9223372036854775808 ≤ x ∧ x ≤ 9223372036854775807) :
    Calls Tryz.prog 4 #[.slice p xs.length c] w fun e w' => e = .returned (.bool true) ∧ Below w.heap.size w w' := by
  by_cases h : (xs.length : Int) ≤ 1048576
  case neg =>
    have H := Lib.hid (bytesIM_no p xs.length c w hl h)
    clear h hx hl
    go_enter Tryz.func4, Tryz.ntmps4
    go_wp2_with fail
    refine H.out.mono ?_
    rintro e w' ⟨rfl, rfl⟩
    go_wp2_with fail
    go_ret
    exact ⟨rfl, Below.refl _ _⟩
  case pos =>
    have H := Lib.hid (bytesIM p xs.length c w hl h)
    have HX := Lib.hid hx
    clear hx
    by_cases h2 : xs.length ≤ 4096
    · go_enter Tryz.func4, Tryz.ntmps4
      go_wp2_with fail
      refine H.out.mono ?_
      rintro e w' ⟨rfl, rfl⟩
      go_wp2_with fail
      refine (clone _ xs _ HX.out h).mono ?_
      rintro e w1 ⟨p1, c1, rfl, hi, hb⟩
      have HI := Lib.hid hi
      have HB := Lib.hid hb
      have HZ := Lib.hid (zzSort _ xs w1 hi h)
      clear hi hb
      go_wp2_with fail
      refine HZ.out.mono ?_
      rintro e w2 ⟨p2, c2, ys, rfl, hy, hs, hb⟩
      have HY := Lib.hid hy
      have HS := Lib.hid hs
      have HB2 := Lib.hid (HB.out.trans (hb.mono HB.out.size))
      have HM := Lib.hid (model _ xs w2 (HI.out.below hb) h)
      clear hy hs hb
      go_wp2_with fail
      refine HM.out.mono ?_
      rintro e w3 ⟨p3, c3, zs, rfl, hz, hs, hb⟩
      have he := HS.out.unique hs
      subst he
      have HE := Lib.hid (eqInts _ _ ys w3 (HY.out.below hb) hz (by rw [hs.len]; exact h))
      have HB3 := Lib.hid (HB2.out.trans (hb.mono HB2.out.size))
      clear hz hs hb
      go_wp2_with fail
      refine HE.out.mono ?_
      rintro e w4 ⟨rfl, hb⟩
      have HB4 := Lib.hid (HB3.out.trans (hb.mono HB3.out.size))
      clear hb
      go_wp2_with fail
      go_ret
      exact ⟨rfl, HB4.out⟩
    · go_enter Tryz.func4, Tryz.ntmps4
      go_wp2_with fail
      refine H.out.mono ?_
      rintro e w' ⟨rfl, rfl⟩
      go_wp2_with fail
      all_goals
        go_ret
        exact ⟨rfl, Below.refl _ _⟩
end Go.Proofs.YtlhgfijpagfhpaaGreatDoor
