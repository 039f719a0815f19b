/- FnSortByIntsRefusesExactlyLengthMismatch: it returns true. -/
import Derived.Test.YtlhgfijpagfhpaaGreatDoorNe46
namespace Go.Proofs.YtlhgfijpagfhpaaGreatDoor
open Go.RowKit
set_option maxRecDepth 100000
set_option maxHeartbeats 4000000
theorem bytesRM (p q : Option Addr) (l c m d : Nat) (w : World) (hl : (l : Int) ≤ 9223372036854775807) (hm : (m : Int) ≤ 9223372036854775807) (h : (l : Int) + m ≤ 1048576) :
    Calls Tryz.prog 17 #[.slice p l c, .slice q m d] w fun e w' => e = .returned (.bool true) ∧ w = w' := by
  go_enter Tryz.func17, Tryz.ntmps17
  go_wp2
  go_ret
  exact ⟨rfl, rfl⟩
theorem bytesRM_no (p q : Option Addr) (l c m d : Nat) (w : World) (hl : (l : Int) ≤ 9223372036854775807) (hm : (m : Int) ≤ 9223372036854775807) (h : ¬ (l : Int) + m ≤ 1048576) :
    Calls Tryz.prog 17 #[.slice p l c, .slice q m d] w fun e w' => e = .returned (.bool false) ∧ w = w' := by
  go_enter Tryz.func17, Tryz.ntmps17
  go_wp2
  all_goals
    go_ret
    exact ⟨rfl, rfl⟩
theorem law_RM (w : World) (vs : List Int) (p : Option Addr) (c : Nat) (hx : Ints w (.slice p vs.length c) vs) (hl : (vs.length : Int) ≤ 9223372036854775807) (_ : ∀ x ∈ vs, -9223372036854775808 ≤ x ∧ x ≤ 9223372036854775807)
    (ks : List Int) (q : Option Addr) (d : Nat) (hy : Ints w (.slice q ks.length d) ks) (hm : (ks.length : Int) ≤ 9223372036854775807) (_ : ∀ x ∈ ks, -9223372036854775808 ≤ x ∧ x ≤ 9223372036854775807) :
    Calls Tryz.prog 6 #[.slice p vs.length c, .slice q ks.length d] w fun e w' => e = .returned (.bool true) ∧ Below w.heap.size w w' := by
  by_cases h : (vs.length : Int) + ks.length ≤ 1048576
  case neg =>
    have H := Lib.hid (bytesRM_no p q vs.length c ks.length d w hl hm h)
    clear h hx hl hy hm
    go_enter Tryz.func6, Tryz.ntmps6
    go_wp2_with fail
    refine H.out.mono ?_
    rintro e w' ⟨rfl, rfl⟩
    go_wp2_with fail
    go_ret
    exact ⟨rfl, Below.refl _ _⟩
  case pos =>
    have H := Lib.hid (bytesRM p q vs.length c ks.length d w hl hm h)
    have HX := Lib.hid hx
    have HY := Lib.hid hy
    have hv1 : (vs.length : Int) ≤ 1048576 := by omega
    have hk1 : (ks.length : Int) ≤ 1048576 := by omega
    clear hx hy
    by_cases h2 : vs.length ≤ 4096 ∧ ks.length ≤ 4096
    · obtain ⟨h2, h3⟩ := h2
      go_enter Tryz.func6, Tryz.ntmps6
      go_wp2_with fail
      refine H.out.mono ?_
      rintro e w' ⟨rfl, rfl⟩
      go_wp2_with fail
      refine (clone _ vs _ HX.out hv1).mono ?_
      rintro e w1 ⟨p1, c1, rfl, hi, hb⟩
      have HI := Lib.hid hi
      have HB := Lib.hid hb
      have HC2 := Lib.hid (clone _ ks w1 (HY.out.below hb) hk1)
      clear hi hb
      go_wp2_with fail
      refine HC2.out.mono ?_
      rintro e w2 ⟨p2, c2, rfl, hj, hb⟩
      have HI2 := Lib.hid (HI.out.below hb)
      have HJ := Lib.hid hj
      have HB2 := Lib.hid (HB.out.trans (hb.mono HB.out.size))
      clear hj hb
      by_cases he : vs.length = ks.length
      · have t0 : ((vs.length : Int) == ks.length) = true := by simp; omega
        have HZ := Lib.hid (zzSortBy _ _ vs ks w2 HI2.out HJ.out he hv1)
        clear he
        go_wp2_with fail
        refine HZ.out.mono ?_
        rintro e w3 ⟨p3, c3, ys, rfl, hz, hs, hb⟩
        have t1 : ((ys.length : Int) == vs.length) = true := by have := hs.len; simp; omega
        have HB3 := Lib.hid (HB2.out.trans (hb.mono HB2.out.size))
        clear hz hs hb
        go_wp2_with fail
        all_goals
          go_ret
          exact ⟨rfl, HB3.out⟩
      · have t0 : ((vs.length : Int) == ks.length) = false := by simp; omega
        have HZ := Lib.hid (zzSortBy_ne _ _ vs ks w2 HI2.out HJ.out he hv1 hk1)
        clear he
        go_wp2_with fail
        refine HZ.out.mono ?_
        rintro e w3 ⟨rfl, hb⟩
        have HB3 := Lib.hid (HB2.out.trans (hb.mono HB2.out.size))
        clear hb
        go_wp2_with fail
        all_goals
          go_ret
          exact ⟨rfl, HB3.out⟩
    · go_enter Tryz.func6, Tryz.ntmps6
      go_wp2_with fail
      refine H.out.mono ?_
      rintro e w' ⟨rfl, rfl⟩
      go_wp2_with fail
      all_goals
        first
          | (go_ret; exact ⟨rfl, Below.refl _ _⟩)
          | (exfalso; omega)
end Go.Proofs.YtlhgfijpagfhpaaGreatDoor
