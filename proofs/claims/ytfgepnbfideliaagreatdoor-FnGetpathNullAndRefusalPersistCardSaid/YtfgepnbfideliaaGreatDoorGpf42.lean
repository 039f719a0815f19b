/- FnGetpathNullAndRefusalPersist: it returns true. -/
import Derived.Test.YtfgepnbfideliaaGreatDoorGpe42
namespace Go.Proofs.YtfgepnbfideliaaGreatDoor
open Go.RowKit
set_option maxRecDepth 100000
set_option maxHeartbeats 8000000
theorem fillN_app1 (ps qs : List Int) (k : Nat) (h : k < ps.length) : (ps ++ qs).getD k 0 = ps.getD k 0 := by
  simp [List.getD, List.getElem?_append_left h]
theorem fillN_app2 (ps qs : List Int) (k : Nat) (_ : k < qs.length) : (ps ++ qs).getD (ps.length + k) 0 = qs.getD k 0 := by
  simp [List.getD, List.getElem?_append_right (Nat.le_add_right ps.length k)]
theorem fillB_app1 (ps qs : List Bool) (k : Nat) (h : k < ps.length) : (ps ++ qs).getD k false = ps.getD k false := by
  simp [List.getD, List.getElem?_append_left h]
theorem fillB_app2 (ps qs : List Bool) (k n : Nat) (hn : n = ps.length) (_ : k < qs.length) : (ps ++ qs).getD (n + k) false = qs.getD k false := by
  subst hn
  simp [List.getD, List.getElem?_append_right (Nat.le_add_right ps.length k)]
theorem fillN_at (xs : List Int) (k : Nat) (y : Int) (hy : xs.getD k 0 = y) : ∀ i, (if i = k then Value.int .i64 y else fillN xs k i) = fillN xs (k + 1) i := by
  intro i
  unfold fillN
  by_cases h : i = k
  · subst h; rw [if_pos rfl, if_pos (by omega), hy]
  · rw [if_neg h]
    by_cases h2 : i < k
    · rw [if_pos h2, if_pos (by omega)]
    · rw [if_neg h2, if_neg (by omega)]
theorem fillB_at (xs : List Bool) (k : Nat) (y : Bool) (hy : xs.getD k false = y) : ∀ i, (if i = k then Value.bool y else fillB xs k i) = fillB xs (k + 1) i := by
  intro i
  unfold fillB
  by_cases h : i = k
  · subst h; rw [if_pos rfl, if_pos (by omega), hy]
  · rw [if_neg h]
    by_cases h2 : i < k
    · rw [if_pos h2, if_pos (by omega)]
    · rw [if_neg h2, if_neg (by omega)]
theorem ints_of_row {W : World} {F : Nat} (xs : List Int) (c : Nat) (h : W.rowIs F 3 xs.length (fillN xs xs.length)) : Ints W (.slice (some ⟨F, 0, none⟩) xs.length c) xs :=
  Or.inr (Or.inr ⟨F, 0, c, rfl, fun i hi => by
    rw [Nat.zero_add, h.cell hi]; unfold fillN; rw [if_pos hi]; simp [List.getD, hi]⟩)
theorem bools_of_row {W : World} {F : Nat} (xs : List Bool) (c : Nat) (h : W.rowIs F 4 xs.length (fillB xs xs.length)) : Bools W (.slice (some ⟨F, 0, none⟩) xs.length c) xs :=
  Or.inr (Or.inr ⟨F, 0, c, rfl, fun i hi => by
    rw [Nat.zero_add, h.cell hi]; unfold fillB; rw [if_pos hi]; simp [List.getD, hi]⟩)
/-- The end of the law: what is known of the two answers. -/
theorem ends_ok (m : List (List Int)) (P Q : List (Bool × Int)) : (Q = [] → pathG m (P ++ Q) = pathG m P) ∧ (Q ≠ [] → ((pathG m P).kind = 0 → (pathG m (P ++ Q)).kind = 0) ∧ ((pathG m P).kind = 1 ∨ (pathG m P).kind = 2 → (pathG m (P ++ Q)).kind = 2)) :=
  ⟨fun h => by rw [h, List.append_nil], fun h => ⟨path_null m P Q, path_end m P Q h⟩⟩
theorem law_GP (w : World) (m : List (List Int)) (p : Option Addr) (c : Nat) (hv : Mat2 w (.slice p m.length c) m) (hml : (m.length : Int) ≤ 9223372036854775807) (hmb : ∀ x ∈ m, (x.length : Int) ≤ 9223372036854775807 ∧ ∀ y ∈ x, -9223372036854775808 ≤ y ∧ y ≤ 9223372036854775807)
    (ps : List Int) (q : Option Addr) (d : Nat) (hx : Ints w (.slice q ps.length d) ps) (hpl : (ps.length : Int) ≤ 9223372036854775807) (hpb : ∀ x ∈ ps, -9223372036854775808 ≤ x ∧ x ≤ 9223372036854775807)
    (ks : List Bool) (q2 : Option Addr) (d2 : Nat) (hy : Bools w (.slice q2 ks.length d2) ks) (hkl : (ks.length : Int) ≤ 9223372036854775807) (_ : True)
    (qs : List Int) (q3 : Option Addr) (d3 : Nat) (hx3 : Ints w (.slice q3 qs.length d3) qs) (hql : (qs.length : Int) ≤ 9223372036854775807) (hqb : ∀ x ∈ qs, -9223372036854775808 ≤ x ∧ x ≤ 9223372036854775807)
    (kq : List Bool) (q4 : Option Addr) (d4 : Nat) (hy4 : Bools w (.slice q4 kq.length d4) kq) (hkql : (kq.length : Int) ≤ 9223372036854775807) (_ : True)
    (key : ByteArray) (hk : (key.size : Int) ≤ 9223372036854775807) :
    Calls Tryz.prog 7 #[.slice p m.length c, .slice q ps.length d, .slice q2 ks.length d2, .slice q3 qs.length d3, .slice q4 kq.length d4, .string key] w fun e w' => e = .returned (.bool true) ∧ Below w.heap.size w w' := by
  have hrl : ∀ r, r < m.length → ((m.getD r []).length : Int) ≤ 9223372036854775807 := fun r hr => by
    simp only [List.getD, List.getElem?_eq_getElem hr, Option.getD_some]; exact (hmb _ (List.getElem_mem hr)).1
  have HZ := Lib.hid (zzBytesG p q q2 q3 q4 c d d2 ps.length ks.length qs.length kq.length d3 d4 key m w hv hml hrl hpl hkl hql hkql hk)
  have HS := Lib.hid (matBytes p c m w hv hml hrl)
  have HV := Lib.hid hv
  have HX := Lib.hid hx
  have HY := Lib.hid hy
  have HX3 := Lib.hid hx3
  have HY4 := Lib.hid hy4
  have HMB := Lib.hid hmb
  have HPB := Lib.hid hpb
  have HQB := Lib.hid hqb
  clear hv hx hy hx3 hy4 hmb hpb hqb hrl
  go_enter Tryz.func7, Tryz.ntmps7
  go_wp2_with fail
  refine HZ.out.mono ?_
  rintro e w' ⟨⟨t, rfl⟩, rfl⟩
  clear HZ
  cases t
  · go_wp2_with fail
    go_ret
    exact ⟨rfl, Below.refl _ _⟩
  by_cases h1 : (ps.length : Int) ≤ 65536
  rotate_left
  · go_wp2_with fail
    go_ret
    exact ⟨rfl, Below.refl _ _⟩
  by_cases h2 : (ks.length : Int) ≤ 65536
  rotate_left
  · go_wp2_with fail
    go_ret
    exact ⟨rfl, Below.refl _ _⟩
  by_cases h3 : (qs.length : Int) ≤ 65536
  rotate_left
  · go_wp2_with fail
    go_ret
    exact ⟨rfl, Below.refl _ _⟩
  by_cases h4 : (kq.length : Int) ≤ 65536
  rotate_left
  · go_wp2_with fail
    go_ret
    exact ⟨rfl, Below.refl _ _⟩
  by_cases h5 : (key.size : Int) ≤ 65536
  rotate_left
  · go_wp2_with fail
    go_ret
    exact ⟨rfl, Below.refl _ _⟩
  go_wp2_with fail
  refine HS.out.mono ?_
  rintro e w' ⟨n, rfl, n1, n2, HN, rfl⟩
  clear HS
  by_cases h6 : n + 8 * (ps.length : Int) + ks.length + 8 * (qs.length : Int) + kq.length + key.size ≤ 1048576
  rotate_left
  · go_wp2_with fail
    go_ret
    exact ⟨rfl, Below.refl _ _⟩
  by_cases h7 : (ks.length : Int) = ps.length
  rotate_left
  · go_wp2_with fail
    go_ret
    exact ⟨rfl, Below.refl _ _⟩
  by_cases h8 : (kq.length : Int) = qs.length
  rotate_left
  · go_wp2_with fail
    go_ret
    exact ⟨rfl, Below.refl _ _⟩
  have HM := Lib.hid (HN.out (by omega))
  have HE := Lib.hid (show ks.length = ps.length ∧ kq.length = qs.length from ⟨by omega, by omega⟩)
  have HRL : Hid (∀ x ∈ m, (x.length : Int) ≤ 1048576) := Lib.hid (fun x hx => by
    obtain ⟨r, hr, rfl⟩ := List.getElem_of_mem hx
    have := HM.out.2 r hr
    simp only [List.getD, List.getElem?_eq_getElem hr, Option.getD_some] at this
    omega)
  go_wp2_with fail
  clear h7 h8
  refine (cloneM _ m _ HV.out (by have := HM.out.1; omega) HRL.out).mono ?_
  rintro e w1 ⟨p1, c1, rfl, k1, kb⟩
  have HB := Lib.hid kb
  have HV1 := Lib.hid k1
  have HC2 := Lib.hid (cloneI _ ps w1 (HX.out.below kb) (by omega))
  clear k1 kb
  go_wp2_with fail
  refine HC2.out.mono ?_
  rintro e w2 ⟨p2, c2, rfl, k1, kb⟩
  have HB2 := Lib.hid (HB.out.trans (kb.mono HB.out.size))
  have HV2 := Lib.hid (HV1.out.below kb)
  have HX2 := Lib.hid k1
  have HC3 := Lib.hid (cloneB _ ks w2 (HY.out.below HB2.out) (by omega))
  clear k1 kb HC2 HB HV1
  go_wp2_with fail
  refine HC3.out.mono ?_
  rintro e w3 ⟨p3, c3, rfl, k1, kb⟩
  have HB3 := Lib.hid (HB2.out.trans (kb.mono HB2.out.size))
  have HV3 := Lib.hid (HV2.out.below kb)
  have HX4 := Lib.hid (HX2.out.below kb)
  have HY3 := Lib.hid k1
  have HC4 := Lib.hid (cloneI _ qs w3 (HX3.out.below HB3.out) (by omega))
  clear k1 kb HC3 HB2 HV2 HX2
  go_wp2_with fail
  refine HC4.out.mono ?_
  rintro e w4 ⟨p4, c4, rfl, k1, kb⟩
  have HB4 := Lib.hid (HB3.out.trans (kb.mono HB3.out.size))
  have HV4 := Lib.hid (HV3.out.below kb)
  have HX5 := Lib.hid (HX4.out.below kb)
  have HY5 := Lib.hid (HY3.out.below kb)
  have HQ4 := Lib.hid k1
  have HC5 := Lib.hid (cloneB _ kq w4 (HY4.out.below HB4.out) (by omega))
  clear k1 kb HC4 HB3 HV3 HX4 HY3
  have hmk := mkInt (ps.length + qs.length) (by omega)
  have hmb := mkBool (ps.length + qs.length) (by omega)
  simp only [Int.natCast_add] at hmk hmb
  go_wp2_with fail
  refine HC5.out.mono ?_
  rintro e w5 ⟨p5, c5, rfl, k1, kb⟩
  have HB5 := Lib.hid (HB4.out.trans (kb.mono HB4.out.size))
  have HV5 := Lib.hid (HV4.out.below kb)
  have HX6 := Lib.hid (HX5.out.below kb)
  have HY6 := Lib.hid (HY5.out.below kb)
  have HQ5 := Lib.hid (HQ4.out.below kb)
  have HK5 := Lib.hid k1
  clear k1 kb HC5 HB4 HV4 HX5 HY5 HQ4 HV HX HY HX3 HY4 HN
  go_wp2_with fail
  have HF := Lib.hid (show ((w5.alloc (.cells (madeCells #[.int .i64 0] (ps.length + qs.length)) 3)).alloc (.cells (madeCells #[.bool false] (ps.length + qs.length)) 4)).rowIs w5.heap.size 3 (ps.length + qs.length) (fillN (ps ++ qs) 0) from
    (row_on (World.rowIs_made w5 (.int .i64 0) (ps.length + qs.length) 3) ((Below.refl (w5.heap.size + 1) _).alloc (by simp) _) (by omega)).congr fun i _ => by unfold fillN; rw [if_neg (by omega)])
  have HK := Lib.hid (show ((w5.alloc (.cells (madeCells #[.int .i64 0] (ps.length + qs.length)) 3)).alloc (.cells (madeCells #[.bool false] (ps.length + qs.length)) 4)).rowIs (w5.heap.size + 1) 4 (ps.length + qs.length) (fillB (ks ++ kq) 0) from by
    have h := World.rowIs_made (w5.alloc (.cells (madeCells #[.int .i64 0] (ps.length + qs.length)) 3)) (.bool false) (ps.length + qs.length) 4
    rw [show (w5.alloc (.cells (madeCells #[.int .i64 0] (ps.length + qs.length)) 3)).heap.size = w5.heap.size + 1 by simp] at h
    exact h.congr fun i _ => by unfold fillB; rw [if_neg (by omega)])
  go_loopw [16] (fun i wr => ∃ k : Nat, k ≤ ps.length ∧ i = .int .i64 k ∧ Hid (Below w5.heap.size w5 wr) ∧ Hid (wr.rowIs w5.heap.size 3 (ps.length + qs.length) (fillN (ps ++ qs) k)) ∧ Hid (wr.rowIs (w5.heap.size + 1) 4 (ps.length + qs.length) (fillB (ks ++ kq) k))) (fun i _ => ps.length - (intOf i).toNat)
  case atStart => exact ⟨0, Nat.zero_le _, rfl, Lib.hid (((Below.refl _ _).alloc (Nat.le_refl _) _).alloc (by simp) _), HF, HK⟩
  case round =>
    clear HF HK hmk hmb
    obtain ⟨k, hk, rfl, HBL, HW1, HW2⟩ := hrel
    by_cases hlt : k < ps.length
    · skip
      obtain ⟨b, o, c', he, hc⟩ := ints_cellG HX6.out hlt
      simp only [Value.slice.injEq, true_and] at he
      obtain ⟨rfl, rfl⟩ := he
      have hjk : k < ks.length := by have := HE.out; omega
      obtain ⟨b2, o2, c2', he, hd⟩ := bools_cell HY6.out hjk
      simp only [Value.slice.injEq, true_and] at he
      obtain ⟨rfl, rfl⟩ := he
      obtain ⟨y, hyy⟩ : ∃ y, y = ps.getD k 0 := ⟨_, rfl⟩
      obtain ⟨t, htt⟩ : ∃ t, t = ks.getD k false := ⟨_, rfl⟩
      rw [← hyy] at hc
      rw [← htt] at hd
      have lb := lt_of_cell' hd
      have hc3 : wr.cell? ⟨b, o + k, none⟩ = some (.int .i64 y) := by rw [HBL.out.cell (p := ⟨b, o + k, none⟩) (lt_of_cell' hc)]; exact hc
      have hd3 : (wr.setCell ⟨w5.heap.size, k, none⟩ (.int .i64 y)).cell? ⟨b2, o2 + k, none⟩ = some (.bool t) := by
        rw [set_other _ _ _ _ _ _ (by omega), HBL.out.cell (p := ⟨b2, o2 + k, none⟩) lb]; exact hd
      have g1 : wr.cell? ⟨w5.heap.size, k, none⟩ = some (fillN (ps ++ qs) (k) (k)) := HW1.out.cell (by omega)
      have g2 : wr.frozen? ⟨w5.heap.size, k, none⟩ = false := HW1.out.frozen (k)
      have HW3 := Lib.hid (row_far (B := w5.heap.size) (k := k) (v := .int .i64 y) HW2.out (by omega))
      have g3 : (wr.setCell ⟨w5.heap.size, k, none⟩ (.int .i64 y)).cell? ⟨w5.heap.size + 1, k, none⟩ = some (fillB (ks ++ kq) (k) (k)) := HW3.out.cell (by omega)
      have g4 : (wr.setCell ⟨w5.heap.size, k, none⟩ (.int .i64 y)).frozen? ⟨w5.heap.size + 1, k, none⟩ = false := HW3.out.frozen (k)
      have k1 : (k : Int) < ps.length := by omega
      have k2 : (k : Int) < ks.length := by omega
      have kg : (0 : Int) ≤ k := by omega
      have HLT := Lib.hid hlt
      have HYY := Lib.hid (show (ps ++ qs).getD (k) 0 = y by rw [hyy]; exact fillN_app1 ps qs k hlt)
      have HTT := Lib.hid (show (ks ++ kq).getD (k) false = t by rw [htt]; exact fillB_app1 ks kq k hjk)
      clear hc hd hyy htt
      go_wp2_with fail
      go_roundw
      case rel => exact ⟨k + 1, HLT.out, by go_num, Lib.hid ((HBL.out.setCell (Nat.le_refl _) _).setCell (by simp) _), Lib.hid (row_far ((HW1.out.set (k) _).congr fun i _ => fillN_at (ps ++ qs) k y HYY.out i) (by omega)), Lib.hid ((HW3.out.set (k) _).congr fun i _ => fillB_at (ks ++ kq) k t HTT.out i)⟩
      case measure => simp [intOf]; omega
    · have hkn : k = ps.length := by omega
      have H1 := Lib.hid (show wr.rowIs w5.heap.size 3 (ps.length + qs.length) (fillN (ps ++ qs) (ps.length + 0)) from by have h := HW1.out; rw [hkn] at h; exact h)
      have H2 := Lib.hid (show wr.rowIs (w5.heap.size + 1) 4 (ps.length + qs.length) (fillB (ks ++ kq) (ps.length + 0)) from by have h := HW2.out; rw [hkn] at h; exact h)
      clear HW1 HW2 hkn
      go_wp2_with fail
      go_loopw [17] (fun i wr => ∃ k : Nat, k ≤ qs.length ∧ i = .int .i64 k ∧ Hid (Below w5.heap.size w5 wr) ∧ Hid (wr.rowIs w5.heap.size 3 (ps.length + qs.length) (fillN (ps ++ qs) (ps.length + k))) ∧ Hid (wr.rowIs (w5.heap.size + 1) 4 (ps.length + qs.length) (fillB (ks ++ kq) (ps.length + k)))) (fun i _ => qs.length - (intOf i).toNat)
      case atStart => exact ⟨0, Nat.zero_le _, rfl, HBL, H1, H2⟩
      case round =>
        clear H1 H2 HBL hk hlt
        obtain ⟨k, hk, rfl, HBL, HW1, HW2⟩ := hrel
        by_cases hlt : k < qs.length
        · skip
          obtain ⟨b, o, c', he, hc⟩ := ints_cellG HQ5.out hlt
          simp only [Value.slice.injEq, true_and] at he
          obtain ⟨rfl, rfl⟩ := he
          have hjk : k < kq.length := by have := HE.out; omega
          obtain ⟨b2, o2, c2', he, hd⟩ := bools_cell HK5.out hjk
          simp only [Value.slice.injEq, true_and] at he
          obtain ⟨rfl, rfl⟩ := he
          obtain ⟨y, hyy⟩ : ∃ y, y = qs.getD k 0 := ⟨_, rfl⟩
          obtain ⟨t, htt⟩ : ∃ t, t = kq.getD k false := ⟨_, rfl⟩
          rw [← hyy] at hc
          rw [← htt] at hd
          have lb := lt_of_cell' hd
          have hc3 : wr.cell? ⟨b, o + k, none⟩ = some (.int .i64 y) := by rw [HBL.out.cell (p := ⟨b, o + k, none⟩) (lt_of_cell' hc)]; exact hc
          have hd3 : (wr.setCell ⟨w5.heap.size, ps.length + k, none⟩ (.int .i64 y)).cell? ⟨b2, o2 + k, none⟩ = some (.bool t) := by
            rw [set_other _ _ _ _ _ _ (by omega), HBL.out.cell (p := ⟨b2, o2 + k, none⟩) lb]; exact hd
          have g1 : wr.cell? ⟨w5.heap.size, ps.length + k, none⟩ = some (fillN (ps ++ qs) (ps.length + k) (ps.length + k)) := HW1.out.cell (by omega)
          have g2 : wr.frozen? ⟨w5.heap.size, ps.length + k, none⟩ = false := HW1.out.frozen (ps.length + k)
          have HW3 := Lib.hid (row_far (B := w5.heap.size) (k := ps.length + k) (v := .int .i64 y) HW2.out (by omega))
          have g3 : (wr.setCell ⟨w5.heap.size, ps.length + k, none⟩ (.int .i64 y)).cell? ⟨w5.heap.size + 1, ps.length + k, none⟩ = some (fillB (ks ++ kq) (ps.length + k) (ps.length + k)) := HW3.out.cell (by omega)
          have g4 : (wr.setCell ⟨w5.heap.size, ps.length + k, none⟩ (.int .i64 y)).frozen? ⟨w5.heap.size + 1, ps.length + k, none⟩ = false := HW3.out.frozen (ps.length + k)
          have k1 : (k : Int) < qs.length := by omega
          have k2 : (k : Int) < kq.length := by omega
          have kg : (0 : Int) ≤ k := by omega
          have HLT := Lib.hid hlt
          have HYY := Lib.hid (show (ps ++ qs).getD (ps.length + k) 0 = y by rw [hyy]; exact fillN_app2 ps qs k hlt)
          have HTT := Lib.hid (show (ks ++ kq).getD (ps.length + k) false = t by rw [htt]; exact fillB_app2 ks kq k ps.length (by have := HE.out; omega) hjk)
          clear hc hd hyy htt
          go_wp2_with fail
          go_roundw
          case rel => exact ⟨k + 1, HLT.out, by go_num, Lib.hid ((HBL.out.setCell (Nat.le_refl _) _).setCell (by simp) _), Lib.hid (row_far ((HW1.out.set (ps.length + k) _).congr fun i _ => fillN_at (ps ++ qs) (ps.length + k) y HYY.out i) (by omega)), Lib.hid ((HW3.out.set (ps.length + k) _).congr fun i _ => fillB_at (ks ++ kq) (ps.length + k) t HTT.out i)⟩
          case measure => simp [intOf]; omega
        · have hkn : k = qs.length := by omega
          subst hkn
          have hl1 : (ps ++ qs).length = ps.length + qs.length := List.length_append
          have hl2 : (ks ++ kq).length = ps.length + qs.length := by rw [List.length_append]; have := HE.out; omega
          have HI := Lib.hid (ints_of_row (ps ++ qs) (ps.length + qs.length) (by rw [hl1]; exact HW1.out))
          have HJ := Lib.hid (bools_of_row (ks ++ kq) (ps.length + qs.length) (by rw [hl2]; exact HW2.out))
          have HVW := Lib.hid (HV5.out.below HBL.out)
          have HVV : Hid (∀ r, r < m.length → ∀ j, j < (m.getD r []).length → -9223372036854775808 ≤ (m.getD r []).getD j 0 ∧ (m.getD r []).getD j 0 ≤ 9223372036854775807) := Lib.hid (fun r hr j hj => by
            simp only [List.getD, List.getElem?_eq_getElem hr, Option.getD_some] at hj ⊢
            rw [List.getElem?_eq_getElem hj]
            exact (HMB.out _ (List.getElem_mem hr)).2 _ (List.getElem_mem hj))
          have Z1 := Lib.hid (zz_rows _ _ m _ _ ps _ _ ks key wr HVW.out (HX6.out.below HBL.out) (HY6.out.below HBL.out) HVV.out (fun s hs => HPB.out _ (List.of_mem_zip hs).2) HE.out.1 (by have := HM.out.1; omega) HRL.out (by omega))
          have HZI := Lib.hid (And.intro hl1 hl2)
          have HBB := Lib.hid (HB5.out.trans (HBL.out.mono HB5.out.size))
          clear HW1 HW2 hl1 hl2
          go_wp2_with fail
          refine Z1.out.mono ?_
          rintro e w6 ⟨rfl, kb⟩
          obtain ⟨hl1, hl2⟩ := HZI.out
          have Z2 := Lib.hid (zz_rows _ _ m _ _ (ps ++ qs) _ _ (ks ++ kq) key w6 (HVW.out.below kb) (HI.out.below kb) (HJ.out.below kb) HVV.out (fun s hs => by
            have h := (List.of_mem_zip hs).2
            rcases List.mem_append.1 h with h | h
            · exact HPB.out _ h
            · exact HQB.out _ h) (by rw [hl1, hl2]) (by have := HM.out.1; omega) HRL.out (by rw [hl1]; omega))
          rw [hl1, hl2, List.zip_append HE.out.1] at Z2
          have HB6 := Lib.hid (HBB.out.trans (kb.mono HBB.out.size))
          obtain ⟨en1, en2⟩ := ends_ok m (ks.zip ps) (kq.zip qs)
          have hqz : qs.length = 0 → kq.zip qs = [] := fun h => by rw [List.length_eq_zero_iff.1 h]; simp
          have hqn : qs.length ≠ 0 → kq.zip qs ≠ [] := fun h e => by
            have h3 := congrArg List.length e
            rw [List.length_zip, HE.out.2, Nat.min_self] at h3
            exact h h3
          have EN : Hid (((qs.length = 0) → (pathG m (ks.zip ps ++ kq.zip qs)).kind = (pathG m (ks.zip ps)).kind ∧ (pathG m (ks.zip ps ++ kq.zip qs)).num = (pathG m (ks.zip ps)).num) ∧ (qs.length ≠ 0 → ((pathG m (ks.zip ps)).kind = 0 → (pathG m (ks.zip ps ++ kq.zip qs)).kind = 0) ∧ ((pathG m (ks.zip ps)).kind = 1 ∨ (pathG m (ks.zip ps)).kind = 2 → (pathG m (ks.zip ps ++ kq.zip qs)).kind = 2))) := Lib.hid ⟨fun h => by rw [en1 (hqz h)]; exact ⟨rfl, rfl⟩, fun h => en2 (hqn h)⟩
          clear kb hl1 hl2 en1 en2 hqz hqn Z1
          generalize (pathG m (ks.zip ps)).kind = A1 at *
          generalize (pathG m (ks.zip ps)).num = N1 at *
          generalize (pathG m (ks.zip ps ++ kq.zip qs)).kind = A2 at *
          generalize (pathG m (ks.zip ps ++ kq.zip qs)).num = N2 at *
          go_wp2_with fail
          refine Z2.out.mono ?_
          rintro e w7 ⟨rfl, kb⟩
          have HB7 := Lib.hid (HB6.out.trans (kb.mono HB6.out.size))
          clear kb Z2
          by_cases hq0 : (qs.length : Int) = 0
          · obtain ⟨rfl, rfl⟩ := EN.out.1 (by omega)
            go_wp2_with fail
            go_ret
            exact ⟨by simp, HB7.out⟩
          · have hen := EN.out.2 (by omega)
            clear EN
            by_cases ha0 : A1 = 0
            · have hA2 := hen.1 ha0
              subst hA2
              subst ha0
              clear hen
              go_wp2_with fail
              go_ret
              exact ⟨by simp, HB7.out⟩
            · by_cases ha1 : A1 = 1
              · have hA2 := hen.2 (Or.inl ha1)
                subst hA2
                subst ha1
                clear hen
                go_wp2_with fail
                go_ret
                exact ⟨by simp, HB7.out⟩
              · by_cases ha2 : A1 = 2
                · have hA2 := hen.2 (Or.inr ha2)
                  subst hA2
                  subst ha2
                  clear hen
                  go_wp2_with fail
                  go_ret
                  exact ⟨by simp, HB7.out⟩
                · have b1 : (A1 == 1) = false := by simpa using ha1
                  have b2 : (A1 == 2) = false := by simpa using ha2
                  clear hen
                  go_wp2_with fail
                  all_goals
                    first
                      | (go_ret; exact ⟨rfl, HB7.out⟩)
                      | (exfalso; simp_all)
                      | (exfalso; rename_i hh; rcases hh with hh | hh <;> omega)
end Go.Proofs.YtfgepnbfideliaaGreatDoor
