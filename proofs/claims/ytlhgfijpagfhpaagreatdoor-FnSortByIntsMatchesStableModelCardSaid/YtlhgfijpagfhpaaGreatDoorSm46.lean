/- FnSortByIntsMatchesStableModel: it returns true. -/
import Derived.Test.YtlhgfijpagfhpaaGreatDoorMp46
import Derived.Test.YtlhgfijpagfhpaaGreatDoorIm46
namespace Go.Proofs.YtlhgfijpagfhpaaGreatDoor
open Go.RowKit
set_option maxRecDepth 100000
set_option maxHeartbeats 4000000
theorem bytesSM (p q : Option Addr) (l c m d : Nat) (w : World) (hl : (l : Int) ≤ 9223372036854775807) (hm : (m : Int) ≤ 9223372036854775807) (h : (l : Int) + m ≤ 1048576) :
    Calls Tryz.prog 19 #[.slice p l c, .slice q m d] w fun e w' => e = .returned (.bool true) ∧ w = w' := by
  go_enter Tryz.func19, Tryz.ntmps19
  go_wp2
  go_ret
  exact ⟨rfl, rfl⟩
theorem bytesSM_no (p q : Option Addr) (l c m d : Nat) (w : World) (hl : (l : Int) ≤ 9223372036854775807) (hm : (m : Int) ≤ 9223372036854775807) (h : ¬ (l : Int) + m ≤ 1048576) :
    Calls Tryz.prog 19 #[.slice p l c, .slice q m d] w fun e w' => e = .returned (.bool false) ∧ w = w' := by
  go_enter Tryz.func19, Tryz.ntmps19
  go_wp2
  all_goals
    go_ret
    exact ⟨rfl, rfl⟩
theorem law_SM (w : World) (vs : List Int) (p : Option Addr) (c : Nat) (hx : Ints w (.slice p vs.length c) vs) (hl : (vs.length : Int) ≤ 9223372036854775807) (_ : ∀ x ∈ vs, -9223372036854775808 ≤ x ∧ x ≤ 9223372036854775807)
    (ks : List Int) (q : Option Addr) (d : Nat) (hy : Ints w (.slice q ks.length d) ks) (hm : (ks.length : Int) ≤ 9223372036854775807) (_ : ∀ x ∈ ks, -9223372036854775808 ≤ x ∧ x ≤ 9223372036854775807) :
    Calls Tryz.prog 7 #[.slice p vs.length c, .slice q ks.length d] w fun e w' => e = .returned (.bool true) ∧ Below w.heap.size w w' := by
  by_cases h : (vs.length : Int) + ks.length ≤ 1048576
  case neg =>
    have H := Lib.hid (bytesSM_no p q vs.length c ks.length d w hl hm h)
    clear h hx hl hy hm
    go_enter Tryz.func7, Tryz.ntmps7
    go_wp2_with fail
    refine H.out.mono ?_
    rintro e w' ⟨rfl, rfl⟩
    go_wp2_with fail
    go_ret
    exact ⟨rfl, Below.refl _ _⟩
  case pos =>
    have H := Lib.hid (bytesSM p q vs.length c ks.length d w hl hm h)
    have HX := Lib.hid hx
    have HY := Lib.hid hy
    have hv1 : (vs.length : Int) ≤ 1048576 := by omega
    have hk1 : (ks.length : Int) ≤ 1048576 := by omega
    clear hx hy
    by_cases h2 : vs.length ≤ 4096 ∧ ks.length ≤ 4096 ∧ vs.length = ks.length
    · obtain ⟨h2, h3, he⟩ := h2
      have t0 : ((vs.length : Int) != ks.length) = false := by simp; omega
      have HE := Lib.hid he
      clear he
      go_enter Tryz.func7, Tryz.ntmps7
      go_wp2_with fail
      refine H.out.mono ?_
      rintro e w' ⟨rfl, rfl⟩
      go_wp2_with fail
      refine (clone _ vs _ HX.out hv1).mono ?_
      rintro e w1 ⟨p1, c1, rfl, hi, hb⟩
      have HI := Lib.hid hi
      have HB := Lib.hid hb
      have HC2 := Lib.hid (clone _ ks w1 (HY.out.below hb) hk1)
      clear hi hb
      go_wp2_with fail
      refine HC2.out.mono ?_
      rintro e w2 ⟨p2, c2, rfl, hj, hb⟩
      have HI2 := Lib.hid (HI.out.below hb)
      have HJ := Lib.hid hj
      have HB2 := Lib.hid (HB.out.trans (hb.mono HB.out.size))
      clear hj hb
      have HZ := Lib.hid (zzSortBy _ _ vs ks w2 HI2.out HJ.out HE.out hv1)
      go_wp2_with fail
      refine HZ.out.mono ?_
      rintro e w3 ⟨p3, c3, ys, rfl, hz, hs, hb⟩
      have HY3 := Lib.hid hz
      have HS := Lib.hid hs
      have HB3 := Lib.hid (HB2.out.trans (hb.mono HB2.out.size))
      have HP := Lib.hid (pairs _ _ vs ks w3 (HI2.out.below hb) (HJ.out.below hb) HE.out hv1)
      clear hz hs hb
      go_wp2_with fail
      refine HP.out.mono ?_
      rintro e w4 ⟨p4, c4, q4, d4, zs, us, rfl, hz, _, ⟨t, r1, r2, r3, _⟩, hb⟩
      have hst : StableBy vs ks zs := ⟨t, r1, r2, r3⟩
      have he := HS.out.unique hst
      subst he
      have HEQ := Lib.hid (eqInts _ _ ys w4 (HY3.out.below hb) hz (by rw [hst.len]; exact hv1))
      have HB4 := Lib.hid (HB3.out.trans (hb.mono HB3.out.size))
      clear hz hb r1 r2 r3 hst
      go_wp2_with fail
      refine HEQ.out.mono ?_
      rintro e w5 ⟨rfl, hb⟩
      have HB5 := Lib.hid (HB4.out.trans (hb.mono HB4.out.size))
      clear hb
      go_wp2_with fail
      go_ret
      exact ⟨rfl, HB5.out⟩
    · go_enter Tryz.func7, Tryz.ntmps7
      go_wp2_with fail
      refine H.out.mono ?_
      rintro e w' ⟨rfl, rfl⟩
      go_wp2_with fail
      all_goals
        first
          | (go_ret; exact ⟨rfl, Below.refl _ _⟩)
          | (exfalso; omega)
end Go.Proofs.YtlhgfijpagfhpaaGreatDoor
