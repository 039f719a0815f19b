/- FnSortIntsIdempotent: it returns true. -/
import Derived.Test.YtlhgfijpagfhpaaGreatDoorIm46
namespace Go.Proofs.YtlhgfijpagfhpaaGreatDoor
open Go.RowKit
set_option maxRecDepth 100000
set_option maxHeartbeats 4000000
theorem bytesID (p : Option Addr) (l c : Nat) (w : World) (hl : (l : Int) ≤ 9223372036854775807) (h : (l : Int) ≤ 1048576) :
    Calls Tryz.prog 16 #[.slice p l c] w fun e w' => e = .returned (.bool true) ∧ w = w' := by
  go_enter Tryz.func16, Tryz.ntmps16
  go_wp2
  go_ret
  exact ⟨rfl, rfl⟩
theorem bytesID_no (p : Option Addr) (l c : Nat) (w : World) (hl : (l : Int) ≤ 9223372036854775807) (h : ¬ (l : Int) ≤ 1048576) :
    Calls Tryz.prog 16 #[.slice p l c] w fun e w' => e = .returned (.bool false) ∧ w = w' := by
  go_enter Tryz.func16, Tryz.ntmps16
  go_wp2
  all_goals
    go_ret
    exact ⟨rfl, rfl⟩
theorem law_ID (w : World) (xs : List Int) (p : Option Addr) (c : Nat) (hx : Ints w (.slice p xs.length c) xs) (hl : (xs.length : Int) ≤ 9223372036854775807) (_ : ∀ x ∈ xs, -9223372036854775808 ≤ x ∧ x ≤ 9223372036854775807) :
    Calls Tryz.prog 5 #[.slice p xs.length c] w fun e w' => e = .returned (.bool true) ∧ Below w.heap.size w w' := by
  by_cases h : (xs.length : Int) ≤ 1048576
  case neg =>
    have H := Lib.hid (bytesID_no p xs.length c w hl h)
    clear h hx hl
    go_enter Tryz.func5, Tryz.ntmps5
    go_wp2_with fail
    refine H.out.mono ?_
    rintro e w' ⟨rfl, rfl⟩
    go_wp2_with fail
    go_ret
    exact ⟨rfl, Below.refl _ _⟩
  case pos =>
    have H := Lib.hid (bytesID p xs.length c w hl h)
    have HX := Lib.hid hx
    clear hx
    by_cases h2 : xs.length ≤ 4096
    · go_enter Tryz.func5, Tryz.ntmps5
      go_wp2_with fail
      refine H.out.mono ?_
      rintro e w' ⟨rfl, rfl⟩
      go_wp2_with fail
      refine (clone _ xs _ HX.out h).mono ?_
      rintro e w1 ⟨p1, c1, rfl, hi, hb⟩
      have HI := Lib.hid hi
      have HB := Lib.hid hb
      have HZ := Lib.hid (zzSort _ xs w1 hi h)
      clear hi hb
      go_wp2_with fail
      refine HZ.out.mono ?_
      rintro e w2 ⟨p2, c2, ys, rfl, hy, hs, hb⟩
      have HY := Lib.hid hy
      have HS := Lib.hid hs
      have hyl : ys.length = xs.length := hs.len
      have hy2 : (ys.length : Int) ≤ 1048576 := by rw [hyl]; exact h
      have t0 : ((ys.length : Int) != xs.length) = false := by simp; omega
      have HB2 := Lib.hid (HB.out.trans (hb.mono HB.out.size))
      have HM := Lib.hid (zzSort _ ys w2 hy hy2)
      have HL := Lib.hid hyl
      clear hy hs hb hyl
      go_wp2_with fail
      refine HM.out.mono ?_
      rintro e w3 ⟨p3, c3, zs, rfl, hz, hs, hb⟩
      have he := HS.out.again.unique hs
      subst he
      have HE := Lib.hid (eqInts _ _ ys w3 (HY.out.below hb) hz hy2)
      have HB3 := Lib.hid (HB2.out.trans (hb.mono HB2.out.size))
      clear hz hs hb
      go_wp2_with fail
      refine HE.out.mono ?_
      rintro e w4 ⟨rfl, hb⟩
      have HB4 := Lib.hid (HB3.out.trans (hb.mono HB3.out.size))
      clear hb
      go_wp2_with fail
      go_ret
      exact ⟨rfl, HB4.out⟩
    · go_enter Tryz.func5, Tryz.ntmps5
      go_wp2_with fail
      refine H.out.mono ?_
      rintro e w' ⟨rfl, rfl⟩
      go_wp2_with fail
      all_goals
        go_ret
        exact ⟨rfl, Below.refl _ _⟩
end Go.Proofs.YtlhgfijpagfhpaaGreatDoor
