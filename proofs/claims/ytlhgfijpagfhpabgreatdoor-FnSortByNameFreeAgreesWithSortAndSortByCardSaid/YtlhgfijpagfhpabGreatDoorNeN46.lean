/- ZZSortByNamedInts where the lengths differ: an error, told as false. -/
import Derived.Test.YtlhgfijpagfhpabGreatDoorSby46
namespace Go.Proofs.YtlhgfijpagfhpabGreatDoor
open Go.RowKit
set_option maxRecDepth 100000
set_option maxHeartbeats 4000000
theorem zzSortByNamed_ne (name : ByteArray) (v x : Value) (vs ks : List Int) (W : World) (hv : Ints W v vs) (hx : Ints W x ks) (hl : vs.length ≠ ks.length) (hn : (vs.length : Int) ≤ 1048576) (hk : (ks.length : Int) ≤ 1048576) :
    Calls Tryz.prog 8 #[.string name, v, x] W fun e w' => e = .returned (.tuple #[.slice none 0 0, .bool false]) ∧ Below W.heap.size W w' := by
  have H := Lib.hid (toAnys v vs W hv hn)
  have HX := Lib.hid hx
  have HL := Lib.hid hl
  clear hv hx hl
  go_enter Tryz.func8, Tryz.ntmps8
  go_wp2_with fail
  refine H.out.mono ?_
  rintro e w1 ⟨b, c, rfl, ha, hb⟩
  have HA := Lib.hid ha
  have HB := Lib.hid hb
  have HK := Lib.hid (toAnys x ks w1 (HX.out.below hb) hk)
  clear ha hb
  go_wp2_with fail
  refine HK.out.mono ?_
  rintro e w1' ⟨b', c', rfl, ha, hb⟩
  have hA := HA.out.below hb
  obtain ⟨bb, oo, cc, hq, _⟩ := hA
  obtain ⟨bb2, oo2, cc2, hq2, _⟩ := ha
  have H1 := Lib.hid (sortBy_refused name _ _ w1' (refuse_lens name (some ⟨bb, oo, none⟩) (some ⟨bb2, oo2, none⟩) vs.length cc ks.length cc2 w1' HL.out))
  rw [← hq, ← hq2] at H1
  have HB1 := Lib.hid (HB.out.trans (hb.mono HB.out.size))
  clear hb hq hq2
  go_wp2_with fail
  refine H1.out.mono ?_
  rintro e w2 ⟨⟨t, a, ht, rfl⟩, h3⟩
  have HB2 := Lib.hid (HB1.out.trans (h3.mono HB1.out.size))
  have HT := Lib.hid ht
  clear h3 ht
  go_wp2_with fail
  refine (fromErr _ _ _ HT.out).mono ?_
  rintro e w3 ⟨rfl, rfl⟩
  go_wp2_with fail
  go_ret2
  exact ⟨rfl, HB2.out⟩
end Go.Proofs.YtlhgfijpagfhpabGreatDoor
