/- FnSortByNameFreeAgreesWithSortAndSortBy: it returns true. -/
import Derived.Test.YtlhgfijpagfhpabGreatDoorIm46
import Derived.Test.YtlhgfijpagfhpabGreatDoorEq46
import Derived.Test.YtlhgfijpagfhpabGreatDoorNe46
import Derived.Test.YtlhgfijpagfhpabGreatDoorNeN46
import Derived.Test.YtlhgfijpagfhpabGreatDoorSbN46
namespace Go.Proofs.YtlhgfijpagfhpabGreatDoor
open Go.RowKit
set_option maxRecDepth 100000
set_option maxHeartbeats 8000000
theorem bytesNF (name : ByteArray) (p q : Option Addr) (l c m d : Nat) (w : World) (hs : (name.size : Int) ≤ 9223372036854775807) (hl : (l : Int) ≤ 9223372036854775807) (hm : (m : Int) ≤ 9223372036854775807) (h : (name.size : Int) + l + m ≤ 1048576) :
    Calls Tryz.prog 6 #[.string name, .slice p l c, .slice q m d] w fun e w' => e = .returned (.bool true) ∧ w = w' := by
  go_enter Tryz.func6, Tryz.ntmps6
  go_wp2
  go_ret
  exact ⟨rfl, rfl⟩
theorem bytesNF_no (name : ByteArray) (p q : Option Addr) (l c m d : Nat) (w : World) (hs : (name.size : Int) ≤ 9223372036854775807) (hl : (l : Int) ≤ 9223372036854775807) (hm : (m : Int) ≤ 9223372036854775807) (h : ¬ (name.size : Int) + l + m ≤ 1048576) :
    Calls Tryz.prog 6 #[.string name, .slice p l c, .slice q m d] w fun e w' => e = .returned (.bool false) ∧ w = w' := by
  go_enter Tryz.func6, Tryz.ntmps6
  go_wp2
  all_goals
    go_ret
    exact ⟨rfl, rfl⟩
theorem law_NF (w : World) (name : ByteArray) (hs : (name.size : Int) ≤ 9223372036854775807) (vs : List Int) (p : Option Addr) (c : Nat) (hx : Ints w (.slice p vs.length c) vs) (hl : (vs.length : Int) ≤ 9223372036854775807) (_ : ∀ x ∈ vs, -9223372036854775808 ≤ x ∧ x ≤ 9223372036854775807)
    (ks : List Int) (q : Option Addr) (d : Nat) (hy : Ints w (.slice q ks.length d) ks) (hm : (ks.length : Int) ≤ 9223372036854775807) (_ : ∀ x ∈ ks, -9223372036854775808 ≤ x ∧ x ≤ 9223372036854775807) :
    Calls Tryz.prog 3 #[.string name, .slice p vs.length c, .slice q ks.length d] w fun e w' => e = .returned (.bool true) ∧ Below w.heap.size w w' := by
  by_cases h : (name.size : Int) + vs.length + ks.length ≤ 1048576
  case neg =>
    have H := Lib.hid (bytesNF_no name p q vs.length c ks.length d w hs hl hm h)
    clear h hx hl hy hm hs
    go_enter Tryz.func3, Tryz.ntmps3
    go_wp2_with fail
    refine H.out.mono ?_
    rintro e w' ⟨rfl, rfl⟩
    go_wp2_with fail
    go_ret
    exact ⟨rfl, Below.refl _ _⟩
  case pos =>
    have H := Lib.hid (bytesNF name p q vs.length c ks.length d w hs hl hm h)
    have HX := Lib.hid hx
    have HY := Lib.hid hy
    have hv1 : (vs.length : Int) ≤ 1048576 := by omega
    have hk1 : (ks.length : Int) ≤ 1048576 := by omega
    clear hx hy
    by_cases h2 : name.size ≤ 65536 ∧ vs.length ≤ 4096 ∧ ks.length ≤ 4096
    · obtain ⟨h1, h2, h3⟩ := h2
      go_enter Tryz.func3, Tryz.ntmps3
      go_wp2_with fail
      refine H.out.mono ?_
      rintro e w' ⟨rfl, rfl⟩
      go_wp2_with fail
      refine (clone _ vs _ HX.out hv1).mono ?_
      rintro e w1 ⟨p1, c1, rfl, hi, hb⟩
      have HI := Lib.hid hi
      have HB := Lib.hid hb
      have HC2 := Lib.hid (clone _ ks w1 (HY.out.below hb) hk1)
      clear hi hb
      go_wp2_with fail
      refine HC2.out.mono ?_
      rintro e w2 ⟨p2, c2, rfl, hj, hb⟩
      have HI2 := Lib.hid (HI.out.below hb)
      have HJ := Lib.hid hj
      have HB2 := Lib.hid (HB.out.trans (hb.mono HB.out.size))
      clear hj hb HC2 HI HB HX HY H
      by_cases he : vs.length = ks.length
      · have HZ := Lib.hid (zzSortByNamed name _ _ vs ks w2 HI2.out HJ.out he hv1)
        have HE := Lib.hid he
        clear he
        go_wp2_with fail
        refine HZ.out.mono ?_
        rintro e w3 ⟨p3, c3, ys, rfl, hz, hst, hb⟩
        have HI3 := Lib.hid (HI2.out.below hb)
        have HY3 := Lib.hid hz
        have HS := Lib.hid hst
        have HB3 := Lib.hid (HB2.out.trans (hb.mono HB2.out.size))
        have HZ2 := Lib.hid (zzSortBy _ _ vs ks w3 HI3.out (HJ.out.below hb) HE.out hv1)
        clear hz hst hb
        go_wp2_with fail
        refine HZ2.out.mono ?_
        rintro e w4 ⟨p4, c4, zs, rfl, hz, hst, hb⟩
        have he := HS.out.unique hst
        subst he
        have HI4 := Lib.hid (HI3.out.below hb)
        have HEQ := Lib.hid (eqInts _ _ ys w4 (HY3.out.below hb) hz (by rw [hst.len]; exact hv1))
        have HB4 := Lib.hid (HB3.out.trans (hb.mono HB3.out.size))
        clear hz hst hb
        go_wp2_with fail
        refine HEQ.out.mono ?_
        rintro e w5 ⟨rfl, hb⟩
        have HI5 := Lib.hid (HI4.out.below hb)
        have HB5 := Lib.hid (HB4.out.trans (hb.mono HB4.out.size))
        have HZ3 := Lib.hid (zzSortByNamed name _ _ vs vs w5 HI5.out HI5.out rfl hv1)
        clear hb
        go_wp2_with fail
        refine HZ3.out.mono ?_
        rintro e w6 ⟨p6, c6, us, rfl, hz, hst, hb⟩
        have HU := Lib.hid hz
        have HS3 := Lib.hid hst
        have HB6 := Lib.hid (HB5.out.trans (hb.mono HB5.out.size))
        have HZ4 := Lib.hid (zzSort _ vs w6 (HI5.out.below hb) hv1)
        clear hz hst hb
        go_wp2_with fail
        refine HZ4.out.mono ?_
        rintro e w7 ⟨p7, c7, ts, rfl, hz, hst, hb⟩
        have he := HS3.out.unique hst
        subst he
        have HEQ2 := Lib.hid (eqInts _ _ us w7 (HU.out.below hb) hz (by rw [hst.len]; exact hv1))
        have HB7 := Lib.hid (HB6.out.trans (hb.mono HB6.out.size))
        clear hz hst hb
        go_wp2_with fail
        refine HEQ2.out.mono ?_
        rintro e w8 ⟨rfl, hb⟩
        have HB8 := Lib.hid (HB7.out.trans (hb.mono HB7.out.size))
        clear hb
        go_wp2_with fail
        go_ret
        exact ⟨rfl, HB8.out⟩
      · have HZ := Lib.hid (zzSortByNamed_ne name _ _ vs ks w2 HI2.out HJ.out he hv1 hk1)
        have HE := Lib.hid he
        clear he
        go_wp2_with fail
        refine HZ.out.mono ?_
        rintro e w3 ⟨rfl, hb⟩
        have HI3 := Lib.hid (HI2.out.below hb)
        have HB3 := Lib.hid (HB2.out.trans (hb.mono HB2.out.size))
        have HZ2 := Lib.hid (zzSortBy_ne _ _ vs ks w3 HI3.out (HJ.out.below hb) HE.out hv1 hk1)
        clear hb
        go_wp2_with fail
        refine HZ2.out.mono ?_
        rintro e w5 ⟨rfl, hb⟩
        have HI5 := Lib.hid (HI3.out.below hb)
        have HB5 := Lib.hid (HB3.out.trans (hb.mono HB3.out.size))
        have HZ3 := Lib.hid (zzSortByNamed name _ _ vs vs w5 HI5.out HI5.out rfl hv1)
        clear hb
        go_wp2_with fail
        refine HZ3.out.mono ?_
        rintro e w6 ⟨p6, c6, us, rfl, hz, hst, hb⟩
        have HU := Lib.hid hz
        have HS3 := Lib.hid hst
        have HB6 := Lib.hid (HB5.out.trans (hb.mono HB5.out.size))
        have HZ4 := Lib.hid (zzSort _ vs w6 (HI5.out.below hb) hv1)
        clear hz hst hb
        go_wp2_with fail
        refine HZ4.out.mono ?_
        rintro e w7 ⟨p7, c7, ts, rfl, hz, hst, hb⟩
        have he := HS3.out.unique hst
        subst he
        have HEQ2 := Lib.hid (eqInts _ _ us w7 (HU.out.below hb) hz (by rw [hst.len]; exact hv1))
        have HB7 := Lib.hid (HB6.out.trans (hb.mono HB6.out.size))
        clear hz hst hb
        go_wp2_with fail
        refine HEQ2.out.mono ?_
        rintro e w8 ⟨rfl, hb⟩
        have HB8 := Lib.hid (HB7.out.trans (hb.mono HB7.out.size))
        clear hb
        go_wp2_with fail
        go_ret
        exact ⟨rfl, HB8.out⟩
    · go_enter Tryz.func3, Tryz.ntmps3
      go_wp2_with fail
      refine H.out.mono ?_
      rintro e w' ⟨rfl, rfl⟩
      go_wp2_with fail
      all_goals
        first
          | (go_ret; exact ⟨rfl, Below.refl _ _⟩)
          | (exfalso; omega)
end Go.Proofs.YtlhgfijpagfhpabGreatDoor
