/- The shims where the lengths differ: an error, told as false. -/
import Derived.Test.YtlhgfijpagfhpaaGreatDoorSby46
namespace Go.Proofs.YtlhgfijpagfhpaaGreatDoor
open Go.RowKit
set_option maxRecDepth 100000
set_option maxHeartbeats 4000000
theorem funcSortBy_ne (vs ks : List Int) (v x : Value) (W : World) (hv : Anys W v vs) (hx : Anys W x ks) (hl : vs.length ≠ ks.length) :
    Calls Tryz.prog 26 #[.iface 35 v, .iface 35 x] W fun e w' => (∃ t a, ErrT t ∧ e = .returned (.iface t (.pointer (some a)))) ∧ Below W.heap.size W w' := by
  obtain ⟨b, o, c, rfl, _⟩ := hv
  obtain ⟨b2, o2, c2, rfl, _⟩ := hx
  have H := Lib.hid (fun name => sortBy_refused name _ _ W (refuse_lens name (some ⟨b, o, none⟩) (some ⟨b2, o2, none⟩) vs.length c ks.length c2 W hl))
  clear hl
  go_enter Tryz.func26, Tryz.ntmps26
  go_wp2_with fail
  refine (H.out _).mono ?_
  rintro e w1 ⟨⟨t, a, ht, rfl⟩, hb⟩
  have HH := Lib.hid (And.intro ht hb)
  clear ht hb
  go_wp2_with fail
  go_ret
  exact ⟨⟨t, a, HH.out.1, rfl⟩, HH.out.2⟩
theorem zzSortBy_ne (v x : Value) (vs ks : List Int) (W : World) (hv : Ints W v vs) (hx : Ints W x ks) (hl : vs.length ≠ ks.length) (hn : (vs.length : Int) ≤ 1048576) (hk : (ks.length : Int) ≤ 1048576) :
    Calls Tryz.prog 18 #[v, x] W fun e w' => e = .returned (.tuple #[.slice none 0 0, .bool false]) ∧ Below W.heap.size W w' := by
  have H := Lib.hid (toAnys v vs W hv hn)
  have HX := Lib.hid hx
  have HL := Lib.hid hl
  clear hv hx hl
  go_enter Tryz.func18, Tryz.ntmps18
  go_wp2_with fail
  refine H.out.mono ?_
  rintro e w1 ⟨b, c, rfl, ha, hb⟩
  have HA := Lib.hid ha
  have HB := Lib.hid hb
  have HK := Lib.hid (toAnys x ks w1 (HX.out.below hb) hk)
  clear ha hb
  go_wp2_with fail
  refine HK.out.mono ?_
  rintro e w1' ⟨b', c', rfl, ha, hb⟩
  have H1 := Lib.hid (funcSortBy_ne vs ks _ _ w1' (HA.out.below hb) ha HL.out)
  have HB1 := Lib.hid (HB.out.trans (hb.mono HB.out.size))
  clear ha hb
  go_wp2_with fail
  refine H1.out.mono ?_
  rintro e w2 ⟨⟨t, a, ht, rfl⟩, h3⟩
  have HB2 := Lib.hid (HB1.out.trans (h3.mono HB1.out.size))
  have HT := Lib.hid ht
  clear h3 ht
  go_wp2_with fail
  refine (fromErr _ _ _ HT.out).mono ?_
  rintro e w3 ⟨rfl, rfl⟩
  go_wp2_with fail
  go_ret2
  exact ⟨rfl, HB2.out⟩
end Go.Proofs.YtlhgfijpagfhpaaGreatDoor
