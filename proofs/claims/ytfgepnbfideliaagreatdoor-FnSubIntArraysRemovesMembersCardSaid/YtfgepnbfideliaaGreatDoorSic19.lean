/- FnSubIntArraysRemovesMembers: it returns true. -/
import Derived.Test.YtfgepnbfideliaaGreatDoorSib19
namespace Go.Proofs.YtfgepnbfideliaaGreatDoor
open Go.RowKit
set_option maxRecDepth 100000
set_option maxHeartbeats 8000000
theorem ints_cell' {W : World} {p : Option Addr} {c : Nat} {xs : List Int} (h : Ints W (.slice p xs.length c) xs) {k : Nat} (hk : k < xs.length) :
    ∃ b o c', Value.slice p xs.length c = .slice (some ⟨b, o, none⟩) xs.length c' ∧ W.cell? ⟨b, o + k, none⟩ = some (.int .i64 (xs.getD k 0)) := by
  rcases h with ⟨h1, h2⟩ | ⟨a, cap, h1, h2⟩ | ⟨b, o, cap, h1, h2⟩
  · rw [h2] at hk; simp at hk
  · rw [h2] at hk; simp at hk
  · exact ⟨b, o, cap, h1, by rw [h2 k hk]; simp [List.getD, hk]⟩
theorem bytesSA (p q : Option Addr) (l c m d : Nat) (w : World) (hl : (l : Int) ≤ 9223372036854775807) (hm : (m : Int) ≤ 9223372036854775807) (h : (l : Int) + m ≤ 1048576) :
    Calls Tryz.prog 13 #[.slice p l c, .slice q m d] w fun e w' => e = .returned (.bool true) ∧ w = w' := by
  go_enter Tryz.func13, Tryz.ntmps13
  go_wp2
  go_ret
  exact ⟨rfl, rfl⟩
theorem bytesSA_no (p q : Option Addr) (l c m d : Nat) (w : World) (hl : (l : Int) ≤ 9223372036854775807) (hm : (m : Int) ≤ 9223372036854775807) (h : ¬ (l : Int) + m ≤ 1048576) :
    Calls Tryz.prog 13 #[.slice p l c, .slice q m d] w fun e w' => e = .returned (.bool false) ∧ w = w' := by
  go_enter Tryz.func13, Tryz.ntmps13
  go_wp2
  all_goals
    go_ret
    exact ⟨rfl, rfl⟩
theorem law_SA (w : World) (l : List Int) (p : Option Addr) (c : Nat) (hx : Ints w (.slice p l.length c) l) (hl : (l.length : Int) ≤ 9223372036854775807) (_ : ∀ x ∈ l, -9223372036854775808 ≤ x ∧ x ≤ 9223372036854775807)
    (r : List Int) (q : Option Addr) (d : Nat) (hy : Ints w (.slice q r.length d) r) (hm : (r.length : Int) ≤ 9223372036854775807) (_ : ∀ x ∈ r, -9223372036854775808 ≤ x ∧ x ≤ 9223372036854775807) :
    Calls Tryz.prog 4 #[.slice p l.length c, .slice q r.length d] w fun e w' => e = .returned (.bool true) ∧ Below w.heap.size w w' := by
  by_cases h : (l.length : Int) + r.length ≤ 1048576
  case neg =>
    have H := Lib.hid (bytesSA_no p q l.length c r.length d w hl hm h)
    clear h hx hl hy hm
    go_enter Tryz.func4, Tryz.ntmps4
    go_wp2_with fail
    refine H.out.mono ?_
    rintro e w' ⟨rfl, rfl⟩
    go_wp2_with fail
    go_ret
    exact ⟨rfl, Below.refl _ _⟩
  case pos =>
    have H := Lib.hid (bytesSA p q l.length c r.length d w hl hm h)
    have HX := Lib.hid hx
    have HY := Lib.hid hy
    have hl1 : (l.length : Int) ≤ 1048576 := by omega
    have hr1 : (r.length : Int) ≤ 1048576 := by omega
    clear hx hy
    by_cases h2 : l.length ≤ 4096 ∧ r.length ≤ 4096
    · obtain ⟨h2, h3⟩ := h2
      have hmk := mkInt r.length (by omega)
      go_enter Tryz.func4, Tryz.ntmps4
      go_wp2_with fail
      refine H.out.mono ?_
      rintro e w' ⟨rfl, rfl⟩
      go_wp2_with fail
      refine (clone19 _ l _ HX.out hl1).mono ?_
      rintro e w1 ⟨p1, c1, rfl, hi, hb⟩
      have HI := Lib.hid hi
      have HB := Lib.hid hb
      have HC2 := Lib.hid (clone19 _ r w1 (HY.out.below hb) hr1)
      clear hi hb
      go_wp2_with fail
      refine HC2.out.mono ?_
      rintro e w2 ⟨p2, c2, rfl, hj, hb⟩
      have HI2 := Lib.hid (HI.out.below hb)
      have HJ := Lib.hid hj
      have HB2 := Lib.hid (HB.out.trans (hb.mono HB.out.size))
      have HZ := Lib.hid (zzSub _ _ l r w2 HI2.out hj hl1 hr1)
      clear hj hb HC2 HI HB HX HY H
      go_wp2_with fail
      refine HZ.out.mono ?_
      rintro e w3 ⟨b3, c3, rfl, hz, hb⟩
      have HI3 := Lib.hid (HI2.out.below hb)
      have HJ3 := Lib.hid (HJ.out.below hb)
      have HZ3 := Lib.hid hz
      have HB3 := Lib.hid (HB2.out.trans (hb.mono HB2.out.size))
      have hkl : (keepL l r).length ≤ l.length := keepL_len l r
      clear hz hb HI2 HJ HZ HB2
      go_wp2_with fail
      have HR := Lib.hid (World.rowIs_made w3 (.int .i64 0) r.length 3)
      go_loopw [8] (fun i wr => ∃ k : Nat, k ≤ r.length ∧ i = .int .i64 k ∧ Hid (Below w3.heap.size w3 wr) ∧ Hid (wr.rowIs w3.heap.size 3 r.length (fillN r k))) (fun i _ => r.length - (intOf i).toNat)
      case atStart => exact ⟨0, Nat.zero_le _, rfl, Lib.hid ((Below.refl _ _).alloc (Nat.le_refl _) _), Lib.hid (HR.out.congr fun i _ => by unfold fillN; rw [if_neg (by omega)])⟩
      case round =>
        obtain ⟨k, hk, rfl, HB4, HW⟩ := hrel
        clear HR hmk
        by_cases hlt : k < r.length
        · obtain ⟨b, o, c', he, hc⟩ := ints_cell' HJ3.out hlt
          simp only [Value.slice.injEq, true_and] at he
          obtain ⟨rfl, rfl⟩ := he
          obtain ⟨y, hy⟩ : ∃ y, y = r.getD k 0 := ⟨_, rfl⟩
          rw [← hy] at hc
          have hcell : wr.cell? ⟨b, o + k, none⟩ = some (.int .i64 y) := by
            rw [(HB4.out.cell (p := ⟨b, o + k, none⟩) (lt_of_cell' hc)), hc]
          have h1 : wr.cell? ⟨w3.heap.size, k, none⟩ = some (fillN r k k) := HW.out.cell hlt
          have h2 : wr.frozen? ⟨w3.heap.size, k, none⟩ = false := HW.out.frozen k
          have kg : (0 : Int) ≤ k := by omega
          have HYY := Lib.hid hy
          have HLT := Lib.hid hlt
          clear hc hy
          go_wp2
          go_roundw
          case rel => exact ⟨k + 1, by omega, by go_num, Lib.hid (HB4.out.setCell (Nat.le_refl _) _), Lib.hid ((HW.out.set k _).congr fun i _ => by
            have hy : y = r[k]'HLT.out := by rw [HYY.out]; simp [List.getD, HLT.out]
            rw [hy]; exact fillN_step r k HLT.out i)⟩
          case measure => simp [intOf]; omega
        · have HT := Lib.hid (show wr.rowIs w3.heap.size 3 r.length (rowT r id) from HW.out.congr fun i hi => by unfold fillN rowT; rw [if_pos (by omega), id, keyP_in r hi])
          have HQ := Lib.hid (sort19 w3.heap.size r.length r wr hr1 HT.out)
          have hkn : k = r.length := by omega
          clear HW hkn
          go_wp2_with fail
          refine HQ.out.mono ?_
          rintro e w5 ⟨rfl, ⟨t, g1, g2, g3⟩, hb5⟩
          have HB5 := Lib.hid (HB4.out.trans hb5)
          have HG := Lib.hid (And.intro g1 (And.intro g2 g3))
          have HI5 := Lib.hid (HI3.out.below HB5.out)
          have HZ5 := Lib.hid (HZ3.out.below HB5.out)
          have HB6 := Lib.hid (HB3.out.trans (HB5.out.mono HB3.out.size))
          have HS := Lib.hid (fun (x : Int) (q : Nat) => has19 w3.heap.size r.length r.length (fun i => keyP r r.length (t i)) x (w5.drewN q) hr1 (fun i hi => by
            rw [World.cell?_drewN]; exact g3.cell hi) (fun i j h1 h2 => g2.le (Nat.zero_le _) h1 h2))
          clear g1 g2 g3 hb5 HQ HT HB4 HI3 HJ3 HZ3 HB3
          go_wp2_with fail
          go_loopw [9, 10] (fun vk vi wr => ∃ i : Nat, i ≤ l.length ∧ vi = .int .i64 i ∧ vk = .int .i64 ((keepL (l.take i) r).length : Nat) ∧ Hid (∃ q, wr = w5.drewN q)) (fun _ i _ => l.length - (intOf i).toNat)
          case atStart => exact ⟨0, Nat.zero_le _, rfl, rfl, Lib.hid ⟨0, rfl⟩⟩
          case round =>
            obtain ⟨i, hi, rfl, rfl, HW⟩ := hrel
            have hK1 : (keepL (l.take i) r).length ≤ i := Nat.le_trans (keepL_len _ _) (List.length_take_le _ _)
            by_cases hlt2 : i < l.length
            · obtain ⟨b, o, c', he, hc⟩ := ints_cell' HI5.out hlt2
              simp only [Value.slice.injEq, true_and] at he
              obtain ⟨rfl, rfl⟩ := he
              obtain ⟨x, hx⟩ : ∃ x, x = l.getD i 0 := ⟨_, rfl⟩
              rw [← hx] at hc
              have hcell : wr.cell? ⟨b, o + i, none⟩ = some (.int .i64 x) := by obtain ⟨q, e⟩ := HW.out; rw [e, World.cell?_drewN]; exact hc
              have HX2 := Lib.hid (show x = l[i] by rw [hx]; simp [List.getD, hlt2])
              have HL2 := Lib.hid hlt2
              have ig : (0 : Int) ≤ i := by omega
              have hsn := keepL_snoc l r i hlt2
              rw [← HX2.out] at hsn
              obtain ⟨K, hK⟩ : ∃ K, K = (keepL (l.take i) r).length := ⟨_, rfl⟩
              rw [← hK] at hK1 ⊢
              have HK := Lib.hid hK
              have HSN := Lib.hid hsn
              clear hx hc hsn hK
              go_wp2_with fail
              have hq2 := HW.out
              obtain ⟨q, rfl⟩ := hq2
              refine (HS.out x q).mono ?_
              rintro e w6 ⟨⟨rb, rfl, hrb⟩, ⟨q2, hw6⟩⟩
              rw [World.drewN_drewN] at hw6
              subst hw6
              have HM := Lib.hid (show rb = true ↔ x ∈ r from hrb.out.trans (sorted_mem r HG.out.1 x))
              clear hrb
              cases rb with
              | true =>
                go_wp2_with fail
                go_roundw
                case rel =>
                  refine ⟨i + 1, HL2.out, by go_num, ?_, Lib.hid ⟨_, rfl⟩⟩
                  rw [HSN.out, if_pos (List.contains_iff_mem.2 (HM.out.1 (by simp))), HK.out]
                case measure => simp [intOf]; omega
              | false =>
                have hnc : r.contains x = false := by
                  cases h : r.contains x
                  · rfl
                  · have := HM.out.2 (List.contains_iff_mem.1 h); simp at this
                obtain ⟨hk1, hk2⟩ := keepL_get l r i HL2.out (by rw [← HX2.out]; exact hnc)
                rw [← HK.out] at hk1 hk2
                rw [← HX2.out] at hk2
                obtain ⟨bz, oz, cz, hez, hcz⟩ := ints_cell' HZ5.out hk1
                rw [hk2] at hcz
                simp only [Value.slice.injEq, true_and, Option.some.injEq, Addr.mk.injEq, and_true] at hez
                obtain ⟨⟨rfl, rfl⟩, rfl⟩ := hez
                have hzc : (w5.drewN (q + q2)).cell? ⟨b3, 0 + K, none⟩ = some (.int .i64 x) := by rw [World.cell?_drewN]; exact hcz
                rw [Nat.zero_add] at hzc hcz
                have hcell5 : w5.cell? ⟨b, o + i, none⟩ = some (.int .i64 x) := by rw [World.cell?_drewN] at hcell; exact hcell
                have hcell2 : (w5.drewN (q + q2)).cell? ⟨b, o + i, none⟩ = some (.int .i64 x) := by rw [World.cell?_drewN] at hcell ⊢; exact hcell
                have HNC := Lib.hid hnc
                have Kg : (0 : Int) ≤ K := by omega
                have tg1 : decide ((keepL l r).length ≤ K) = false := by simp; omega
                have tg2 : decide (((keepL l r).length : Int) ≤ (K : Int)) = false := by simp; omega
                have tg3 : (K : Int) < ((keepL l r).length : Int) := by omega
                have tg4 : (i : Int) < (l.length : Int) := by omega
                clear hk2 hnc hcell
                go_wp2_with fail
                go_quiet (fail)
                go_wp2_with fail
                go_roundw
                case rel =>
                  refine ⟨i + 1, HL2.out, by go_num, ?_, Lib.hid ⟨_, rfl⟩⟩
                  rw [HSN.out, if_neg (by rw [HNC.out]; decide), List.length_append, ← HK.out]
                  simp
                case measure => simp [intOf]; omega
            · have hE : keepL (l.take i) r = keepL l r := by rw [List.take_of_length_le (by omega)]
              rw [hE]
              go_wp2_with fail
              go_ret
              obtain ⟨q, e⟩ := HW.out
              exact ⟨by simp, by rw [e]; exact Below.trans HB6.out ⟨rfl, rfl, rfl, Nat.le_refl _, fun _ _ => rfl⟩⟩
    · go_enter Tryz.func4, Tryz.ntmps4
      go_wp2_with fail
      refine H.out.mono ?_
      rintro e w' ⟨rfl, rfl⟩
      go_wp2_with fail
      all_goals
        first
          | (go_ret; exact ⟨rfl, Below.refl _ _⟩)
          | (exfalso; omega)
end Go.Proofs.YtfgepnbfideliaaGreatDoor
