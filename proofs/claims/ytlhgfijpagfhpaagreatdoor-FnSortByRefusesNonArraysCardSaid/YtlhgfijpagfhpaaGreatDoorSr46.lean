/- The walk of FnSortByRefusesNonArrays: it returns true. -/
import Derived.Test.YtlhgfijpagfhpaaGreatDoorCv46
namespace Go.Proofs.YtlhgfijpagfhpaaGreatDoor
open Go.RowKit
set_option maxRecDepth 100000
set_option maxHeartbeats 2000000
theorem scalarValue (name : ByteArray) (n : Int) (v : Value) (xs : List Int) (w : World) (hv : Ints w v xs) (hn : (xs.length : Int) ≤ 1048576) (hs : (name.size : Int) ≤ 9223372036854775807) :
    Calls Tryz.prog 10 #[.string name, .int .i64 n, v] w fun e w' => e = .returned (.bool true) ∧ Below w.heap.size w w' := by
  have H := Lib.hid (toAnys v xs w hv hn)
  have HR := Lib.hid (fun x W => sortBy_refused name _ _ W (refuse_vals name n 35 x W hs))
  clear hv hn hs
  go_enter Tryz.func10, Tryz.ntmps10
  go_wp2_with fail
  refine H.out.mono ?_
  rintro e w1 ⟨b, c, rfl, _, hb⟩
  have HB := Lib.hid hb
  clear hb
  go_wp2_with fail
  refine (HR.out _ _).mono ?_
  rintro e w2 ⟨⟨t, a, ht, rfl⟩, hb2⟩
  have HB2 := Lib.hid (HB.out.trans (hb2.mono HB.out.size))
  have HT := Lib.hid ht
  clear hb2 ht HB
  go_wp2_with fail
  refine (isError _ _ _ HT.out).mono ?_
  rintro e w3 ⟨rfl, rfl⟩
  go_wp2_with fail
  go_ret
  exact ⟨rfl, HB2.out⟩
theorem scalarKeys (name : ByteArray) (n : Int) (v : Value) (xs : List Int) (w : World) (hv : Ints w v xs) (hn : (xs.length : Int) ≤ 1048576) :
    Calls Tryz.prog 11 #[.string name, v, .int .i64 n] w fun e w' => e = .returned (.bool true) ∧ Below w.heap.size w w' := by
  have H := Lib.hid (toAnys v xs w hv hn)
  clear hv hn
  go_enter Tryz.func11, Tryz.ntmps11
  go_wp2_with fail
  refine H.out.mono ?_
  rintro e w1 ⟨b, c, rfl, _, hb⟩
  have HB := Lib.hid hb
  clear hb
  go_wp2_with fail
  refine (sortBy_refused name _ _ _ (refuse_keys name n _ _ _ _)).mono ?_
  rintro e w2 ⟨⟨t, a, ht, rfl⟩, hb2⟩
  have HB2 := Lib.hid (HB.out.trans (hb2.mono HB.out.size))
  have HT := Lib.hid ht
  clear hb2 ht HB
  go_wp2_with fail
  refine (isError _ _ _ HT.out).mono ?_
  rintro e w3 ⟨rfl, rfl⟩
  go_wp2_with fail
  go_ret
  exact ⟨rfl, HB2.out⟩
theorem bytesSR (name : ByteArray) (n : Int) (p : Option Addr) (l c : Nat) (w : World) (hs : (name.size : Int) ≤ 9223372036854775807) (hl : (l : Int) ≤ 9223372036854775807) (h : (name.size : Int) + l ≤ 1048576) :
    Calls Tryz.prog 8 #[.string name, .int .i64 n, .slice p l c] w fun e w' => e = .returned (.bool true) ∧ w = w' := by
  go_enter Tryz.func8, Tryz.ntmps8
  go_wp2
  go_ret
  exact ⟨rfl, rfl⟩
theorem bytesSR_no (name : ByteArray) (n : Int) (p : Option Addr) (l c : Nat) (w : World) (hs : (name.size : Int) ≤ 9223372036854775807) (hl : (l : Int) ≤ 9223372036854775807) (h : ¬ (name.size : Int) + l ≤ 1048576) :
    Calls Tryz.prog 8 #[.string name, .int .i64 n, .slice p l c] w fun e w' => e = .returned (.bool false) ∧ w = w' := by
  go_enter Tryz.func8, Tryz.ntmps8
  go_wp2
  all_goals
    go_ret
    exact ⟨rfl, rfl⟩
theorem law_SR (w : World) (name : ByteArray) (hs : (name.size : Int) ≤ 9223372036854775807) (n : Int) (_ : -9223372036854775808 ≤ n ∧ n ≤ 9223372036854775807) (xs : List Int) (p : Option Addr) (c : Nat) (hx : Ints w (.slice p xs.length c) xs) (hl : (xs.length : Int) ≤ 9223372036854775807) (_ : ∀ x ∈ xs, -9223372036854775808 ≤ x ∧ x ≤ 9223372036854775807) :
    Calls Tryz.prog 3 #[.string name, .int .i64 n, .slice p xs.length c] w fun e w' => e = .returned (.bool true) ∧ Below w.heap.size w w' := by
  by_cases h : (name.size : Int) + xs.length ≤ 1048576
  case neg =>
    have H := Lib.hid (bytesSR_no name n p xs.length c w hs hl h)
    clear h hx hs hl
    go_enter Tryz.func3, Tryz.ntmps3
    go_wp2_with fail
    refine H.out.mono ?_
    rintro e w' ⟨rfl, rfl⟩
    go_wp2_with fail
    go_ret
    exact ⟨rfl, Below.refl _ _⟩
  case pos =>
    have H := Lib.hid (bytesSR name n p xs.length c w hs hl h)
    have HX := Lib.hid hx
    clear hx hl
    by_cases h1 : 1048576 < (name.size : Int) + 8 * xs.length
    · go_enter Tryz.func3, Tryz.ntmps3
      go_wp2_with fail
      refine H.out.mono ?_
      rintro e w' ⟨rfl, rfl⟩
      go_wp2_with fail
      go_ret
      exact ⟨rfl, Below.refl _ _⟩
    · by_cases h2 : 65536 < (name.size : Int)
      · go_enter Tryz.func3, Tryz.ntmps3
        go_wp2_with fail
        refine H.out.mono ?_
        rintro e w' ⟨rfl, rfl⟩
        go_wp2_with fail
        go_ret
        exact ⟨rfl, Below.refl _ _⟩
      · by_cases h3 : 4096 < (xs.length : Int)
        · go_enter Tryz.func3, Tryz.ntmps3
          go_wp2_with fail
          refine H.out.mono ?_
          rintro e w' ⟨rfl, rfl⟩
          go_wp2_with fail
          go_ret
          exact ⟨rfl, Below.refl _ _⟩
        · go_enter Tryz.func3, Tryz.ntmps3
          go_wp2_with fail
          refine H.out.mono ?_
          rintro e w' ⟨rfl, rfl⟩
          go_wp2_with fail
          refine (clone _ _ _ HX.out (by omega)).mono ?_
          rintro e w1 ⟨p1, c1, rfl, hx1, hb1⟩
          have HX1 := Lib.hid hx1
          have HB1 := Lib.hid hb1
          clear hx1 hb1
          go_wp2_with fail
          refine (scalarValue name n _ _ _ HX1.out (by omega) (by omega)).mono ?_
          rintro e w2 ⟨rfl, hb2⟩
          have HX2 := Lib.hid (HX1.out.below hb2)
          have HB2 := Lib.hid (HB1.out.trans (hb2.mono HB1.out.size))
          clear hb2 HX1 HB1
          go_wp2_with fail
          refine (scalarKeys name n _ _ _ HX2.out (by omega)).mono ?_
          rintro e w3 ⟨rfl, hb3⟩
          have HB3 := Lib.hid (HB2.out.trans (hb3.mono HB2.out.size))
          clear hb3 HX2 HB2
          go_wp2_with fail
          go_ret
          exact ⟨rfl, HB3.out⟩
end Go.Proofs.YtlhgfijpagfhpaaGreatDoor
