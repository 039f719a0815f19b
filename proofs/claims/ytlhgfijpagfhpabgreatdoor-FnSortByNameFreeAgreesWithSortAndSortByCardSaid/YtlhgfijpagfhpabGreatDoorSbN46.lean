/- ZZSortByNamedInts where the lengths agree. -/
import Derived.Test.YtlhgfijpagfhpabGreatDoorSby46
namespace Go.Proofs.YtlhgfijpagfhpabGreatDoor
open Go.RowKit
set_option maxRecDepth 100000
set_option maxHeartbeats 4000000
theorem zzSortByNamed (name : ByteArray) (v x : Value) (vs ks : List Int) (W : World) (hv : Ints W v vs) (hx : Ints W x ks) (hl : vs.length = ks.length) (hn : (vs.length : Int) ≤ 1048576) :
    Calls Tryz.prog 8 #[.string name, v, x] W fun e w' => ∃ p c ys, e = .returned (.tuple #[.slice p (ys : List Int).length c, .bool true]) ∧ Ints w' (.slice p ys.length c) ys ∧ StableBy vs ks ys ∧ Below W.heap.size W w' := by
  have H := Lib.hid (toAnys v vs W hv hn)
  have HX := Lib.hid hx
  have HL := Lib.hid hl
  have hk : (ks.length : Int) ≤ 1048576 := by omega
  clear hv hx hl
  go_enter Tryz.func8, Tryz.ntmps8
  go_wp2_with fail
  refine H.out.mono ?_
  rintro e w1 ⟨b, c, rfl, ha, hb⟩
  have HA := Lib.hid ha
  have HB := Lib.hid hb
  have HK := Lib.hid (toAnys x ks w1 (HX.out.below hb) hk)
  clear ha hb
  go_wp2_with fail
  refine HK.out.mono ?_
  rintro e w1' ⟨b', c', rfl, ha, hb⟩
  have H1 := Lib.hid (sortBy_ok name vs ks _ _ w1' (HA.out.below hb) ha HL.out hn)
  have HB1 := Lib.hid (HB.out.trans (hb.mono HB.out.size))
  clear ha hb
  go_wp2_with fail
  refine H1.out.mono ?_
  rintro e w2 ⟨u, ys, rfl, h1, h2, h3⟩
  have H2 := Lib.hid (fromAnys u ys w2 h1 (by rw [h2.len]; exact hn))
  have HS := Lib.hid h2
  have HB2 := Lib.hid (HB1.out.trans (h3.mono HB1.out.size))
  clear h1 h2 h3
  go_wp2_with fail
  refine H2.out.mono ?_
  rintro e w3 ⟨b3, c3, rfl, h1, h2⟩
  have HI := Lib.hid h1
  have HB3 := Lib.hid (HB2.out.trans (h2.mono HB2.out.size))
  clear h1 h2
  go_wp2_with fail
  go_ret2
  exact ⟨_, _, ys, rfl, HI.out, HS.out, HB3.out⟩
end Go.Proofs.YtlhgfijpagfhpabGreatDoor
