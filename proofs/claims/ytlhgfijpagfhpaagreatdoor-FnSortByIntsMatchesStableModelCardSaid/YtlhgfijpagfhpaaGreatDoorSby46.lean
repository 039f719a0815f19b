/- sortBy, funcSort, funcSortBy and the shims, on ints. -/
import Derived.Test.YtlhgfijpagfhpaaGreatDoorItm46
namespace Go.Proofs.YtlhgfijpagfhpaaGreatDoor
open Go.RowKit
set_option maxRecDepth 100000
set_option maxHeartbeats 4000000
/-- xs in the order t. -/
def Picked (t : Nat → Nat) (xs : List Int) : List Int := (List.range xs.length).map fun i => xs.getD (t i) 0
theorem Picked.len (t : Nat → Nat) (xs : List Int) : (Picked t xs).length = xs.length := by simp [Picked]
theorem Picked.get (t : Nat → Nat) (xs : List Int) {i : Nat} (h : i < (Picked t xs).length) : (Picked t xs)[i] = xs.getD (t i) 0 := by simp [Picked]
/-- ys is vs, stably sorted by the keys ks. -/
def StableBy (vs ks ys : List Int) : Prop := ∃ t, Re 0 vs.length id t ∧ Srt (keyP ks vs.length) t 0 vs.length ∧ ys = Picked t vs
theorem StableBy.len {vs ks ys : List Int} (h : StableBy vs ks ys) : ys.length = vs.length := by
  obtain ⟨t, _, _, rfl⟩ := h; exact Picked.len t vs
theorem sortBy_ok (name : ByteArray) (vs ks : List Int) (v x : Value) (W : World) (hv : Anys W v vs) (hx : Anys W x ks) (hl : vs.length = ks.length) (hn : (vs.length : Int) ≤ 1048576) :
    Calls Tryz.prog 22 #[.string name, .iface 35 v, .iface 35 x] W fun e w' => ∃ u ys, e = .returned (.iface 35 u) ∧ Anys w' u ys ∧ StableBy vs ks ys ∧ Below W.heap.size W w' := by
  have H := Lib.hid (items_loop name vs ks v x W hv hx hl hn)
  have hmk := mkAny vs.length (by omega)
  clear hv hx hl
  go_enter Tryz.func22, Tryz.ntmps22
  go_wp2_with fail
  refine H.out.mono ?_
  rintro e w1 ⟨p, t, rfl, hb, hre, hst, hr, hi⟩
  have HB := Lib.hid hb
  have HT := Lib.hid (show StableBy vs ks (Picked t vs) from ⟨t, hre, hst, rfl⟩)
  have hr' : ∀ i, i < vs.length → w1.cell? ⟨W.heap.size, i, none⟩ = some (.pointer (some ⟨p + t i, 0, none⟩)) ∧ w1.cell? ⟨p + t i, 0, none⟩ = some (.iface 3 (.int .i64 ((Picked t vs).getD i 0))) := fun i h => by
    refine ⟨hr i h, ?_⟩
    have ht := hre.all (p := fun x => x < vs.length) (fun j _ h => h) i (Nat.zero_le _) h
    rw [(hi (t i) ht).1]
    have hg : (Picked t vs).getD i 0 = vs.getD (t i) 0 := by simp [Picked, List.getD, h]
    rw [hg]
  have HR := Lib.hid hr'
  have hlen := Picked.len t vs
  have HL := Lib.hid hlen
  generalize Picked t vs = ys at *
  clear hb hre hst hr hi hr' hlen H
  go_wp2_with fail
  have HM := Lib.hid (World.rowIs_made w1 .nilIface vs.length 20)
  go_loopw [27] (fun i wr => ∃ k : Nat, k ≤ vs.length ∧ i = .int .i64 k ∧ Hid (Below w1.heap.size w1 wr) ∧ Hid (wr.rowIs w1.heap.size 20 vs.length (fillI ys k))) (fun i _ => vs.length - (intOf i).toNat)
  case atStart => exact ⟨0, Nat.zero_le _, rfl, Lib.hid ((Below.refl _ _).alloc (Nat.le_refl _) _), Lib.hid (HM.out.congr fun i _ => by unfold fillI; rw [if_neg (by omega)])⟩
  case round =>
    obtain ⟨k, hk, rfl, HB1, HW⟩ := hrel
    clear HM hmk
    by_cases hlt : k < vs.length
    · obtain ⟨a1, a2⟩ := HR.out k hlt
      have d1 : wr.cell? ⟨W.heap.size, k, none⟩ = some (.pointer (some ⟨p + t k, 0, none⟩)) := by
        rw [HB1.out.cell (p := ⟨W.heap.size, k, none⟩) (lt_of_cell' a1)]; exact a1
      have d2 : wr.cell? ⟨p + t k, 0, none⟩ = some (.iface 3 (.int .i64 (ys.getD k 0))) := by
        rw [HB1.out.cell (p := ⟨p + t k, 0, none⟩) (lt_of_cell' a2)]; exact a2
      have h1 : wr.cell? ⟨w1.heap.size, k, none⟩ = some (fillI ys k k) := HW.out.cell hlt
      have h2 : wr.frozen? ⟨w1.heap.size, k, none⟩ = false := HW.out.frozen k
      have kg : (0 : Int) ≤ k := by omega
      clear a1 a2
      go_wp2
      go_roundw
      case rel =>
        have hl := HL.out
        exact ⟨k + 1, by omega, by go_num, Lib.hid (HB1.out.setCell (Nat.le_refl _) _), Lib.hid ((HW.out.set k _).congr fun i _ => by
          rw [← fillI_step ys k (by omega) i]
          by_cases e : i = k
          · rw [if_pos e, if_pos e]; simp [show k < ys.length by omega]
          · rw [if_neg e, if_neg e])⟩
      case measure => simp [intOf]; omega
    · go_wp2
      go_ret
      have hl := HL.out
      refine ⟨_, ys, rfl, ⟨w1.heap.size, 0, vs.length, by rw [hl], fun i hi => ?_⟩, HT.out, HB.out.trans (HB1.out.mono HB.out.size)⟩
      rw [Nat.zero_add, HW.out.cell (by omega)]
      unfold fillI
      rw [if_pos (by omega)]
      simp [List.getD, hi]
theorem funcSort_ok (vs : List Int) (v : Value) (W : World) (hv : Anys W v vs) (hn : (vs.length : Int) ≤ 1048576) :
    Calls Tryz.prog 25 #[.iface 35 v] W fun e w' => ∃ u ys, e = .returned (.iface 35 u) ∧ Anys w' u ys ∧ StableBy vs vs ys ∧ Below W.heap.size W w' := by
  have H := Lib.hid (fun name => sortBy_ok name vs vs v v W hv hv rfl hn)
  clear hv hn
  go_enter Tryz.func25, Tryz.ntmps25
  go_wp2_with fail
  refine (H.out _).mono ?_
  rintro e w1 ⟨u, ys, rfl, h1, h2, h3⟩
  have HH := Lib.hid (And.intro h1 (And.intro h2 h3))
  clear h1 h2 h3
  go_wp2_with fail
  go_ret
  exact ⟨u, ys, rfl, HH.out.1, HH.out.2.1, HH.out.2.2⟩
theorem funcSortBy_ok (vs ks : List Int) (v x : Value) (W : World) (hv : Anys W v vs) (hx : Anys W x ks) (hl : vs.length = ks.length) (hn : (vs.length : Int) ≤ 1048576) :
    Calls Tryz.prog 26 #[.iface 35 v, .iface 35 x] W fun e w' => ∃ u ys, e = .returned (.iface 35 u) ∧ Anys w' u ys ∧ StableBy vs ks ys ∧ Below W.heap.size W w' := by
  have H := Lib.hid (fun name => sortBy_ok name vs ks v x W hv hx hl hn)
  clear hv hx hl hn
  go_enter Tryz.func26, Tryz.ntmps26
  go_wp2_with fail
  refine (H.out _).mono ?_
  rintro e w1 ⟨u, ys, rfl, h1, h2, h3⟩
  have HH := Lib.hid (And.intro h1 (And.intro h2 h3))
  clear h1 h2 h3
  go_wp2_with fail
  go_ret
  exact ⟨u, ys, rfl, HH.out.1, HH.out.2.1, HH.out.2.2⟩
/-- ZZSortInts: the ints sorted, and true. -/
theorem zzSort (v : Value) (xs : List Int) (W : World) (hv : Ints W v xs) (hn : (xs.length : Int) ≤ 1048576) :
    Calls Tryz.prog 13 #[v] W fun e w' => ∃ p c ys, e = .returned (.tuple #[.slice p (ys : List Int).length c, .bool true]) ∧ Ints w' (.slice p ys.length c) ys ∧ StableBy xs xs ys ∧ Below W.heap.size W w' := by
  have H := Lib.hid (toAnys v xs W hv hn)
  clear hv
  go_enter Tryz.func13, Tryz.ntmps13
  go_wp2_with fail
  refine H.out.mono ?_
  rintro e w1 ⟨b, c, rfl, ha, hb⟩
  have H1 := Lib.hid (funcSort_ok xs _ w1 ha hn)
  have HB := Lib.hid hb
  clear ha hb
  go_wp2_with fail
  refine H1.out.mono ?_
  rintro e w2 ⟨u, ys, rfl, h1, h2, h3⟩
  have H2 := Lib.hid (fromAnys u ys w2 h1 (by rw [h2.len]; exact hn))
  have HS := Lib.hid h2
  have HB2 := Lib.hid (HB.out.trans (h3.mono HB.out.size))
  clear h1 h2 h3
  go_wp2_with fail
  refine H2.out.mono ?_
  rintro e w3 ⟨b3, c3, rfl, h1, h2⟩
  have HI := Lib.hid h1
  have HB3 := Lib.hid (HB2.out.trans (h2.mono HB2.out.size))
  clear h1 h2
  go_wp2_with fail
  go_ret2
  exact ⟨_, _, ys, rfl, HI.out, HS.out, HB3.out⟩
/-- ZZSortByInts: lengths agree. -/
theorem zzSortBy (v x : Value) (vs ks : List Int) (W : World) (hv : Ints W v vs) (hx : Ints W x ks) (hl : vs.length = ks.length) (hn : (vs.length : Int) ≤ 1048576) :
    Calls Tryz.prog 18 #[v, x] W fun e w' => ∃ p c ys, e = .returned (.tuple #[.slice p (ys : List Int).length c, .bool true]) ∧ Ints w' (.slice p ys.length c) ys ∧ StableBy vs ks ys ∧ Below W.heap.size W w' := by
  have H := Lib.hid (toAnys v vs W hv hn)
  have HX := Lib.hid hx
  have HL := Lib.hid hl
  have hk : (ks.length : Int) ≤ 1048576 := by omega
  clear hv hx hl
  go_enter Tryz.func18, Tryz.ntmps18
  go_wp2_with fail
  refine H.out.mono ?_
  rintro e w1 ⟨b, c, rfl, ha, hb⟩
  have HA := Lib.hid ha
  have HB := Lib.hid hb
  have HK := Lib.hid (toAnys x ks w1 (HX.out.below hb) hk)
  clear ha hb
  go_wp2_with fail
  refine HK.out.mono ?_
  rintro e w1' ⟨b', c', rfl, ha, hb⟩
  have H1 := Lib.hid (funcSortBy_ok vs ks _ _ w1' (HA.out.below hb) ha HL.out hn)
  have HB1 := Lib.hid (HB.out.trans (hb.mono HB.out.size))
  clear ha hb
  go_wp2_with fail
  refine H1.out.mono ?_
  rintro e w2 ⟨u, ys, rfl, h1, h2, h3⟩
  have H2 := Lib.hid (fromAnys u ys w2 h1 (by rw [h2.len]; exact hn))
  have HS := Lib.hid h2
  have HB2 := Lib.hid (HB1.out.trans (h3.mono HB1.out.size))
  clear h1 h2 h3
  go_wp2_with fail
  refine H2.out.mono ?_
  rintro e w3 ⟨b3, c3, rfl, h1, h2⟩
  have HI := Lib.hid h1
  have HB3 := Lib.hid (HB2.out.trans (h2.mono HB2.out.size))
  clear h1 h2
  go_wp2_with fail
  go_ret2
  exact ⟨_, _, ys, rfl, HI.out, HS.out, HB3.out⟩
end Go.Proofs.YtlhgfijpagfhpaaGreatDoor
