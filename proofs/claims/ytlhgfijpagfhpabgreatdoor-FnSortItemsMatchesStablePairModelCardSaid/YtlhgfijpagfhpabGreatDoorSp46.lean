/- FnSortItemsMatchesStablePairModel: it returns true. -/
import Derived.Test.YtlhgfijpagfhpabGreatDoorMp46
import Derived.Test.YtlhgfijpagfhpabGreatDoorEq46
namespace Go.Proofs.YtlhgfijpagfhpabGreatDoor
open Go.RowKit
set_option maxRecDepth 100000
set_option maxHeartbeats 8000000
/-- Where the lengths agree: the values and keys of the items, in the stable order. -/
theorem zzItems (name : ByteArray) (v x : Value) (vs ks : List Int) (W : World) (hv : Ints W v vs) (hx : Ints W x ks) (hl : vs.length = ks.length) (hn : (vs.length : Int) ≤ 1048576) :
    Calls Tryz.prog 13 #[.string name, v, x] W fun e w' => ∃ p c q d ys zs, e = .returned (.tuple #[.slice p (ys : List Int).length c, .slice q (zs : List Int).length d, .bool false, .bool true]) ∧ Ints w' (.slice p ys.length c) ys ∧ Ints w' (.slice q zs.length d) zs ∧
      (∃ t, Re 0 vs.length id t ∧ Srt (keyP ks vs.length) t 0 vs.length ∧ ys = Picked t vs ∧ zs = Picked t ks) ∧ Below W.heap.size W w' := by
  have H := Lib.hid (toAnys v vs W hv hn)
  have HX := Lib.hid hx
  have HL := Lib.hid hl
  have hk : (ks.length : Int) ≤ 1048576 := by omega
  have hmk := mkInt vs.length (by omega)
  clear hv hx hl
  go_enter Tryz.func13, Tryz.ntmps13
  go_wp2_with fail
  refine H.out.mono ?_
  rintro e w1 ⟨b, c, rfl, ha, hb⟩
  have HA := Lib.hid ha
  have HB := Lib.hid hb
  have HK := Lib.hid (toAnys x ks w1 (HX.out.below hb) hk)
  clear ha hb
  go_wp2_with fail
  refine HK.out.mono ?_
  rintro e w2 ⟨b', c', rfl, ha, hb⟩
  have H1 := Lib.hid (items_loop name vs ks _ _ w2 (HA.out.below hb) ha HL.out hn)
  have HB1 := Lib.hid (HB.out.trans (hb.mono HB.out.size))
  clear ha hb
  go_wp2_with fail
  refine H1.out.mono ?_
  rintro e w3 ⟨p, t, rfl, hb, hre, hst, hr, hi⟩
  have HB2 := Lib.hid (HB1.out.trans (hb.mono HB1.out.size))
  have hr' : ∀ i, i < vs.length → w3.cell? ⟨w2.heap.size, i, none⟩ = some (.pointer (some ⟨p + t i, 0, none⟩)) ∧ w3.cell? ⟨p + t i, 0, none⟩ = some (.iface 3 (.int .i64 ((Picked t vs).getD i 0))) ∧ w3.cell? ⟨p + t i, 1, none⟩ = some (.iface 3 (.int .i64 ((Picked t ks).getD i 0))) := fun i h => by
    have hl := HL.out
    refine ⟨hr i h, ?_⟩
    have ht := hre.lt h
    have hg : (Picked t vs).getD i 0 = vs.getD (t i) 0 := by simp [Picked, List.getD, h]
    have hg2 : (Picked t ks).getD i 0 = ks.getD (t i) 0 := by simp [Picked, List.getD, show i < ks.length by omega]
    rw [hg, hg2]
    exact hi (t i) ht
  have HR := Lib.hid hr'
  have HT := Lib.hid (show ∃ u, Re 0 vs.length id u ∧ Srt (keyP ks vs.length) u 0 vs.length ∧ Picked t vs = Picked u vs ∧ Picked t ks = Picked u ks from ⟨t, hre, hst, rfl, rfl⟩)
  have HL1 := Lib.hid (Picked.len t vs)
  have HL2 := Lib.hid (Picked.len t ks)
  have lz : (Picked t ks).length = vs.length := by rw [Picked.len]; exact HL.out.symm
  have ly : (Picked t vs).length = vs.length := Picked.len t vs
  generalize Picked t vs = ys at *
  generalize Picked t ks = zs at *
  have LY := Lib.hid ly
  have LZ := Lib.hid lz
  clear hb hre hst hr hi hr' H H1 HK HL1 HL2 lz ly
  go_wp2_with fail
  have HM := Lib.hid ((World.rowIs_made w3 (.int .i64 0) vs.length 3).alloc (.cells (madeCells #[.int .i64 0] vs.length) 3))
  have HM2 := Lib.hid (World.rowIs_made (w3.alloc (.cells (madeCells #[.int .i64 0] vs.length) 3)) (.int .i64 0) vs.length 3)
  go_loopw [14] (fun i wr => ∃ k : Nat, k ≤ vs.length ∧ i = .int .i64 k ∧ Hid (Below w3.heap.size w3 wr) ∧ Hid (wr.rowIs w3.heap.size 3 vs.length (fillN ys k)) ∧ Hid (wr.rowIs (w3.heap.size + 1) 3 vs.length (fillN zs k))) (fun i _ => vs.length - (intOf i).toNat)
  case atStart => exact ⟨0, Nat.zero_le _, rfl, Lib.hid (((Below.refl _ _).alloc (Nat.le_refl _) _).alloc (by simp) _), Lib.hid (HM.out.congr fun i _ => by unfold fillN; rw [if_neg (by omega)]), Lib.hid ((show World.rowIs _ (w3.heap.size + 1) _ _ _ by have := HM2.out; simpa using this).congr fun i _ => by unfold fillN; rw [if_neg (by omega)])⟩
  case round =>
    obtain ⟨k, hk, rfl, HB3, HW, HW2⟩ := hrel
    clear HM HM2 hmk
    by_cases hlt : k < vs.length
    · obtain ⟨a1, a2, a3⟩ := HR.out k hlt
      have d1 : wr.cell? ⟨w2.heap.size, k, none⟩ = some (.pointer (some ⟨p + t k, 0, none⟩)) := by
        rw [HB3.out.cell (p := ⟨w2.heap.size, k, none⟩) (lt_of_cell' a1)]; exact a1
      have d2 : wr.cell? ⟨p + t k, 0, none⟩ = some (.iface 3 (.int .i64 (ys.getD k 0))) := by
        rw [HB3.out.cell (p := ⟨p + t k, 0, none⟩) (lt_of_cell' a2)]; exact a2
      have d3 : wr.cell? ⟨p + t k, 1, none⟩ = some (.iface 3 (.int .i64 (zs.getD k 0))) := by
        rw [HB3.out.cell (p := ⟨p + t k, 1, none⟩) (lt_of_cell' a3)]; exact a3
      have h1 : wr.cell? ⟨w3.heap.size, k, none⟩ = some (fillN ys k k) := HW.out.cell hlt
      have h2 : wr.frozen? ⟨w3.heap.size, k, none⟩ = false := HW.out.frozen k
      have h3 : wr.cell? ⟨w3.heap.size + 1, k, none⟩ = some (fillN zs k k) := HW2.out.cell hlt
      have h4 : wr.frozen? ⟨w3.heap.size + 1, k, none⟩ = false := HW2.out.frozen k
      have kg : (0 : Int) ≤ k := by omega
      clear a1 a2 a3
      go_wp2
      go_roundw
      case rel =>
        exact ⟨k + 1, by omega, by go_num, Lib.hid (Below.setCell (Below.setCell HB3.out (Nat.le_refl _) _) (Nat.le_succ _) _),
          Lib.hid (((World.rowIs.set HW.out k _).setOther (by show w3.heap.size ≠ w3.heap.size + 1; omega) _).congr fun i _ => by
            rw [← fillN_step ys k (by rw [LY.out]; exact hlt) i]
            simp [List.getD, show k < ys.length by rw [LY.out]; exact hlt]),
          Lib.hid (((World.rowIs.setOther HW2.out (by show w3.heap.size + 1 ≠ w3.heap.size; omega) _).set k _).congr fun i _ => by
            rw [← fillN_step zs k (by rw [LZ.out]; exact hlt) i]
            simp [List.getD, show k < zs.length by rw [LZ.out]; exact hlt])⟩
      case measure => simp [intOf]; omega
    · go_wp2
      have hkn : k = vs.length := by omega
      have ly := LY.out
      have lz := LZ.out
      refine bodyPost_ret (v := .tuple #[.slice (some ⟨w3.heap.size, 0, none⟩) ys.length vs.length, .slice (some ⟨w3.heap.size + 1, 0, none⟩) zs.length vs.length, .bool false, .bool true]) (by rw [ly, lz]; simp [results, Tryz.results13, go_sem]) rfl ?_
      refine ⟨_, _, _, _, ys, zs, rfl, Or.inr (Or.inr ⟨w3.heap.size, 0, vs.length, rfl, fun i hi => ?_⟩), Or.inr (Or.inr ⟨w3.heap.size + 1, 0, vs.length, rfl, fun i hi => ?_⟩), HT.out, HB2.out.trans (HB3.out.mono HB2.out.size)⟩
      · rw [Nat.zero_add, HW.out.cell (by omega)]
        unfold fillN
        rw [if_pos (by omega)]
        simp [List.getD, hi]
      · rw [Nat.zero_add, HW2.out.cell (by omega)]
        unfold fillN
        rw [if_pos (by omega)]
        simp [List.getD, hi]
theorem zzItems_ne (name : ByteArray) (v x : Value) (vs ks : List Int) (W : World) (hv : Ints W v vs) (hx : Ints W x ks) (hl : vs.length ≠ ks.length) (hn : (vs.length : Int) ≤ 1048576) (hk : (ks.length : Int) ≤ 1048576) :
    Calls Tryz.prog 13 #[.string name, v, x] W fun e w' => e = .returned (.tuple #[.slice none 0 0, .slice none 0 0, .bool true, .bool true]) ∧ Below W.heap.size W w' := by
  have H := Lib.hid (toAnys v vs W hv hn)
  have HX := Lib.hid hx
  have HL := Lib.hid hl
  clear hv hx hl
  go_enter Tryz.func13, Tryz.ntmps13
  go_wp2_with fail
  refine H.out.mono ?_
  rintro e w1 ⟨b, c, rfl, ha, hb⟩
  have HB := Lib.hid hb
  have HK := Lib.hid (toAnys x ks w1 (HX.out.below hb) hk)
  clear ha hb
  go_wp2_with fail
  refine HK.out.mono ?_
  rintro e w2 ⟨b', c', rfl, ha, hb⟩
  have H1 := Lib.hid (refuse_lens name (some ⟨b, 0, none⟩) (some ⟨b', 0, none⟩) vs.length c ks.length c' w2 HL.out)
  have HB1 := Lib.hid (HB.out.trans (hb.mono HB.out.size))
  clear ha hb
  go_wp2_with fail
  refine H1.out.mono ?_
  rintro e w3 ⟨⟨t, a, ht, rfl⟩, h3⟩
  have HB2 := Lib.hid (HB1.out.trans (h3.mono HB1.out.size))
  clear h3 ht
  go_wp2_with fail
  exact bodyPost_ret (v := .tuple #[.slice none 0 0, .slice none 0 0, .bool true, .bool true]) (by simp [results, Tryz.results13, go_sem]) rfl ⟨rfl, HB2.out⟩
theorem bytesSP (name : ByteArray) (p q : Option Addr) (l c m d : Nat) (w : World) (hs : (name.size : Int) ≤ 9223372036854775807) (hl : (l : Int) ≤ 9223372036854775807) (hm : (m : Int) ≤ 9223372036854775807) (h : (name.size : Int) + l + m ≤ 1048576) :
    Calls Tryz.prog 12 #[.string name, .slice p l c, .slice q m d] w fun e w' => e = .returned (.bool true) ∧ w = w' := by
  go_enter Tryz.func12, Tryz.ntmps12
  go_wp2
  go_ret
  exact ⟨rfl, rfl⟩
theorem bytesSP_no (name : ByteArray) (p q : Option Addr) (l c m d : Nat) (w : World) (hs : (name.size : Int) ≤ 9223372036854775807) (hl : (l : Int) ≤ 9223372036854775807) (hm : (m : Int) ≤ 9223372036854775807) (h : ¬ (name.size : Int) + l + m ≤ 1048576) :
    Calls Tryz.prog 12 #[.string name, .slice p l c, .slice q m d] w fun e w' => e = .returned (.bool false) ∧ w = w' := by
  go_enter Tryz.func12, Tryz.ntmps12
  go_wp2
  all_goals
    go_ret
    exact ⟨rfl, rfl⟩
theorem law_SP (w : World) (name : ByteArray) (hs : (name.size : Int) ≤ 9223372036854775807) (vs : List Int) (p : Option Addr) (c : Nat) (hx : Ints w (.slice p vs.length c) vs) (hl : (vs.length : Int) ≤ 9223372036854775807) (_ : ∀ x ∈ vs, -9223372036854775808 ≤ x ∧ x ≤ 9223372036854775807)
    (ks : List Int) (q : Option Addr) (d : Nat) (hy : Ints w (.slice q ks.length d) ks) (hm : (ks.length : Int) ≤ 9223372036854775807) (_ : ∀ x ∈ ks, -9223372036854775808 ≤ x ∧ x ≤ 9223372036854775807) :
    Calls Tryz.prog 4 #[.string name, .slice p vs.length c, .slice q ks.length d] w fun e w' => e = .returned (.bool true) ∧ Below w.heap.size w w' := by
  by_cases h : (name.size : Int) + vs.length + ks.length ≤ 1048576
  case neg =>
    have H := Lib.hid (bytesSP_no name p q vs.length c ks.length d w hs hl hm h)
    clear h hx hl hy hm hs
    go_enter Tryz.func4, Tryz.ntmps4
    go_wp2_with fail
    refine H.out.mono ?_
    rintro e w' ⟨rfl, rfl⟩
    go_wp2_with fail
    go_ret
    exact ⟨rfl, Below.refl _ _⟩
  case pos =>
    have H := Lib.hid (bytesSP name p q vs.length c ks.length d w hs hl hm h)
    have HX := Lib.hid hx
    have HY := Lib.hid hy
    have hv1 : (vs.length : Int) ≤ 1048576 := by omega
    have hk1 : (ks.length : Int) ≤ 1048576 := by omega
    clear hx hy
    by_cases h2 : name.size ≤ 65536 ∧ vs.length ≤ 4096 ∧ ks.length ≤ 4096
    · obtain ⟨h1, h2, h3⟩ := h2
      go_enter Tryz.func4, Tryz.ntmps4
      go_wp2_with fail
      refine H.out.mono ?_
      rintro e w' ⟨rfl, rfl⟩
      go_wp2_with fail
      refine (clone _ vs _ HX.out hv1).mono ?_
      rintro e w1 ⟨p1, c1, rfl, hi, hb⟩
      have HI := Lib.hid hi
      have HB := Lib.hid hb
      have HC2 := Lib.hid (clone _ ks w1 (HY.out.below hb) hk1)
      clear hi hb
      go_wp2_with fail
      refine HC2.out.mono ?_
      rintro e w2 ⟨p2, c2, rfl, hj, hb⟩
      have HI2 := Lib.hid (HI.out.below hb)
      have HJ := Lib.hid hj
      have HB2 := Lib.hid (HB.out.trans (hb.mono HB.out.size))
      clear hj hb HC2 HI HB HX HY H
      by_cases he : vs.length = ks.length
      · have HZ := Lib.hid (zzItems name _ _ vs ks w2 HI2.out HJ.out he hv1)
        have HE := Lib.hid he
        have t0 : ((vs.length : Int) != ks.length) = false := by simp; omega
        clear he
        go_wp2_with fail
        refine HZ.out.mono ?_
        rintro e w3 ⟨p3, c3, q3, d3, ys, us, rfl, hz, hu, ⟨t, r1, r2, r3, r4⟩, hb⟩
        have HY3 := Lib.hid hz
        have HU3 := Lib.hid hu
        have HS := Lib.hid (show StableBy vs ks ys from ⟨t, r1, r2, r3⟩)
        have HS2 := Lib.hid (And.intro r1 (And.intro r2 (And.intro r3 r4)))
        have HB3 := Lib.hid (HB2.out.trans (hb.mono HB2.out.size))
        have HP := Lib.hid (pairs _ _ vs ks w3 (HI2.out.below hb) (HJ.out.below hb) HE.out hv1)
        clear hz hb hu r1 r2 r3 r4
        go_wp2_with fail
        refine HP.out.mono ?_
        rintro e w4 ⟨p4, c4, q4, d4, zs, xs, rfl, hz, hx4, ⟨t', r1, r2, r3, r4⟩, hb⟩
        have hq := stable_unique HS2.out.1 r1 HS2.out.2.1 r2
        have he1 : zs = ys := by
          rw [r3, HS2.out.2.2.1]
          unfold Picked
          exact List.map_congr_left fun i hi => by rw [hq i (List.mem_range.1 hi)]
        have he2 : xs = us := by
          rw [r4, HS2.out.2.2.2]
          unfold Picked
          exact List.map_congr_left fun i hi => by rw [hq i (by have := List.mem_range.1 hi; have := HE.out; omega)]
        subst he1
        subst he2
        have HX4 := Lib.hid hx4
        have HU4 := Lib.hid (HU3.out.below hb)
        have hlx : xs.length = ks.length := by rw [r4, Picked.len]
        have HLX := Lib.hid hlx
        have HEQ := Lib.hid (eqInts _ _ zs w4 (HY3.out.below hb) hz (by rw [HS.out.len]; exact hv1))
        have HB4 := Lib.hid (HB3.out.trans (hb.mono HB3.out.size))
        clear hz hb r1 r2 r3 r4 hq hx4 hlx
        go_wp2_with fail
        refine HEQ.out.mono ?_
        rintro e w5 ⟨rfl, hb⟩
        have HEQ2 := Lib.hid (eqInts _ _ xs w5 (HU4.out.below hb) (HX4.out.below hb) (by rw [HLX.out]; exact hk1))
        have HB5 := Lib.hid (HB4.out.trans (hb.mono HB4.out.size))
        clear hb
        go_wp2_with fail
        refine HEQ2.out.mono ?_
        rintro e w6 ⟨rfl, hb⟩
        have HB6 := Lib.hid (HB5.out.trans (hb.mono HB5.out.size))
        clear hb
        go_wp2_with fail
        go_ret
        exact ⟨rfl, HB6.out⟩
      · have HZ := Lib.hid (zzItems_ne name _ _ vs ks w2 HI2.out HJ.out he hv1 hk1)
        have t0 : ((vs.length : Int) != ks.length) = true := by simp; omega
        clear he
        go_wp2_with fail
        refine HZ.out.mono ?_
        rintro e w3 ⟨rfl, hb⟩
        have HB3 := Lib.hid (HB2.out.trans (hb.mono HB2.out.size))
        clear hb
        go_wp2_with fail
        go_ret
        exact ⟨rfl, HB3.out⟩
    · go_enter Tryz.func4, Tryz.ntmps4
      go_wp2_with fail
      refine H.out.mono ?_
      rintro e w' ⟨rfl, rfl⟩
      go_wp2_with fail
      all_goals
        first
          | (go_ret; exact ⟨rfl, Below.refl _ _⟩)
          | (exfalso; omega)
end Go.Proofs.YtlhgfijpagfhpabGreatDoor
