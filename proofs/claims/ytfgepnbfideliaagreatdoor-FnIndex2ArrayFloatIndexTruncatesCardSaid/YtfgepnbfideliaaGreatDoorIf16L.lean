/- FnIndex2ArrayFloatIndexTruncates: it returns true. -/
import Derived.Test.YtfgepnbfideliaaGreatDoorIf16
namespace Go.Proofs.YtfgepnbfideliaaGreatDoor
open Go.RowKit
set_option maxRecDepth 100000
set_option maxHeartbeats 16000000
theorem bytesIF (p : Option Addr) (l c f : Nat) (w : World) (hl : (l : Int) ≤ 9223372036854775807) (h : (l : Int) ≤ 1048576) :
    Calls Tryz.prog 18 #[.slice p l c, .float .f64 f] w fun e w' => e = .returned (.bool true) ∧ w = w' := by
  go_enter Tryz.func18, Tryz.ntmps18
  go_wp2
  go_ret
  exact ⟨rfl, rfl⟩
theorem bytesIF_no (p : Option Addr) (l c f : Nat) (w : World) (hl : (l : Int) ≤ 9223372036854775807) (h : ¬ (l : Int) ≤ 1048576) :
    Calls Tryz.prog 18 #[.slice p l c, .float .f64 f] w fun e w' => e = .returned (.bool false) ∧ w = w' := by
  go_enter Tryz.func18, Tryz.ntmps18
  go_wp2
  all_goals
    go_ret
    exact ⟨rfl, rfl⟩
theorem pick_far {n : Nat} {i : Int} (hn : (n : Int) ≤ 1048576) (h : i ≤ -9007199254740992 ∨ 9007199254740992 ≤ i) : pickI n i = none := by
  unfold pickI
  rw [if_neg (by omega), if_neg (by omega)]
theorem law_IF (w : World) (xs : List Int) (p : Option Addr) (c : Nat) (hx : Ints w (.slice p xs.length c) xs) (hl : (xs.length : Int) ≤ 9223372036854775807) (_ : ∀ x ∈ xs, -9223372036854775808 ≤ x ∧ x ≤ 9223372036854775807)
    (f : Nat) (_ : (Lit.float .f64 f).wf = true) :
    Calls Tryz.prog 5 #[.slice p xs.length c, .float .f64 f] w fun e w' => e = .returned (.bool true) ∧ Below w.heap.size w w' := by
  by_cases h : (xs.length : Int) ≤ 1048576
  case neg =>
    have H := Lib.hid (bytesIF_no p xs.length c f w hl h)
    clear h hx hl
    go_enter Tryz.func5, Tryz.ntmps5
    go_wp2_with fail
    refine H.out.mono ?_
    rintro e w' ⟨rfl, rfl⟩
    go_wp2_with fail
    go_ret
    exact ⟨rfl, Below.refl _ _⟩
  case pos =>
    have H := Lib.hid (bytesIF p xs.length c f w hl h)
    have hx1 : (xs.length : Int) ≤ 1048576 := h
    by_cases h2 : xs.length ≤ 131072
    case neg =>
      clear hx
      go_enter Tryz.func5, Tryz.ntmps5
      go_wp2_with fail
      refine H.out.mono ?_
      rintro e w' ⟨rfl, rfl⟩
      go_wp2_with fail
      go_ret
      exact ⟨rfl, Below.refl _ _⟩
    case pos =>
      rcases hx with ⟨he, h0⟩ | ⟨a, cap, he, h0⟩ | ⟨b, o, cap, he, hc⟩
      · simp only [Value.slice.injEq] at he
        obtain ⟨rfl, _, rfl⟩ := he
        subst h0
        go_enter Tryz.func5, Tryz.ntmps5
        go_wp2_with fail
        refine H.out.mono ?_
        rintro e w' ⟨rfl, rfl⟩
        go_wp2_with fail
        have HI := Lib.hid (show Ints w (.slice none ([] : List Int).length 0) [] from Or.inl ⟨rfl, rfl⟩)
        have HB := Lib.hid (Below.refl w.heap.size w)
        have HZ := Lib.hid (zzIdxFlo _ ([] : List Int) f _ HI.out hx1)
        refine HZ.out.mono ?_
        rintro e w3 ⟨⟨n, hn, hf⟩, hb⟩
        have HI3 := Lib.hid (HI.out.below hb)
        have HB3 := Lib.hid (HB.out.trans (hb.mono HB.out.size))
        clear hb HZ
        rcases hn with ⟨hin, hv⟩ | ⟨hin, hfar⟩
        · unfold inside at hin
          obtain ⟨g1, g2⟩ := Bool.and_eq_true_iff.1 hin
          have hcv := fun w => run_convert_float_int (P := Tryz.prog) (w := w) 39 3 .f64 .i64 f n (by rw [Tryz.underlying39]; rfl) Tryz.underlying3 hv
          have hnb := floVal_bounds hv
          have HPK := Lib.hid (fun W => zzPick ([] : List Int).length n W hx1 hnb)
          unfold Found at hf
          cases hp : pickI ([] : List Int).length n with
          | none =>
            rw [hp] at hf
            have hf' : e = .returned (.tuple #[.int .i64 0, .bool false, .bool false]) := hf
            subst hf'
            have hpn : pickN ([] : List Int).length n = -1 := by unfold pickN; rw [hp]
            rw [hpn] at HPK
            clear hf hp hpn hin hv
            go_wp2_with fail
            refine (HPK.out _).mono ?_
            rintro e w' ⟨rfl, rfl⟩
            go_wp2_with fail
            go_ret
            exact ⟨rfl, HB3.out⟩
          | some k =>
            rw [hp] at hf
            have hf' : e = .returned (.tuple #[.int .i64 (([] : List Int).getD k 0), .bool true, .bool false]) := hf
            subst hf'
            have hk := (pickI_some hp).1
            have hpn : pickN ([] : List Int).length n = k := by unfold pickN; rw [hp]
            rw [hpn] at HPK
            obtain ⟨b2, o2, c2, he2, hc2⟩ := ints_cell HI3.out hk
            obtain ⟨y, hy⟩ : ∃ y, y = ([] : List Int).getD k 0 := ⟨_, rfl⟩
            rw [← hy] at hc2 ⊢
            simp only [Value.slice.injEq, true_and] at he2
            obtain ⟨e1, e2⟩ := he2
            try subst e1
            try subst e2
            have kg : (0 : Int) ≤ k := by omega
            clear hf hp hpn hin hv hy HI3 HI
            go_wp2_with fail
            refine (HPK.out _).mono ?_
            rintro e w' ⟨rfl, rfl⟩
            go_wp2_with fail
            all_goals
              go_ret
              exact ⟨rfl, HB3.out⟩
        · have hp := pick_far hx1 hfar
          unfold Found at hf
          rw [hp] at hf
          have hf' : e = .returned (.tuple #[.int .i64 0, .bool false, .bool false]) := hf
          subst hf'
          unfold inside at hin
          clear hf hp hfar
          rcases g1 : (FloatKind.f64.format.order f 14069245235905429504 == some Ordering.gt) with _ | _
          · clear hin
            go_wp2_with fail
            go_ret
            exact ⟨rfl, HB3.out⟩
          · rw [g1, Bool.true_and] at hin
            go_wp2_with fail
            go_ret
            exact ⟨rfl, HB3.out⟩
      · simp only [Value.slice.injEq] at he
        obtain ⟨rfl, _, rfl⟩ := he
        subst h0
        have hmk := mkInt 0 (by omega)
        simp only [Int.natCast_zero] at hmk
        go_enter Tryz.func5, Tryz.ntmps5
        go_wp2_with fail
        refine H.out.mono ?_
        rintro e w' ⟨rfl, rfl⟩
        go_wp2_with fail
        refine wp_loop_rounds 1 ?_
        rw [rounds_succ]
        go_wp2_with fail
        have HI := Lib.hid (show Ints (w.alloc (.cells (madeCells #[.int .i64 0] 0) 3)) (.slice (some ⟨w.heap.size, 0, none⟩) ([] : List Int).length 0) [] from Or.inr (Or.inl ⟨_, _, rfl, rfl⟩))
        have HB := Lib.hid ((Below.refl w.heap.size w).alloc (Nat.le_refl _) (.cells (madeCells #[.int .i64 0] 0) 3))
        have HZ := Lib.hid (zzIdxFlo _ ([] : List Int) f _ HI.out hx1)
        refine HZ.out.mono ?_
        rintro e w3 ⟨⟨n, hn, hf⟩, hb⟩
        have HI3 := Lib.hid (HI.out.below hb)
        have HB3 := Lib.hid (HB.out.trans (hb.mono HB.out.size))
        clear hb HZ
        rcases hn with ⟨hin, hv⟩ | ⟨hin, hfar⟩
        · unfold inside at hin
          obtain ⟨g1, g2⟩ := Bool.and_eq_true_iff.1 hin
          have hcv := fun w => run_convert_float_int (P := Tryz.prog) (w := w) 39 3 .f64 .i64 f n (by rw [Tryz.underlying39]; rfl) Tryz.underlying3 hv
          have hnb := floVal_bounds hv
          have HPK := Lib.hid (fun W => zzPick ([] : List Int).length n W hx1 hnb)
          unfold Found at hf
          cases hp : pickI ([] : List Int).length n with
          | none =>
            rw [hp] at hf
            have hf' : e = .returned (.tuple #[.int .i64 0, .bool false, .bool false]) := hf
            subst hf'
            have hpn : pickN ([] : List Int).length n = -1 := by unfold pickN; rw [hp]
            rw [hpn] at HPK
            clear hf hp hpn hin hv
            go_wp2_with fail
            refine (HPK.out _).mono ?_
            rintro e w' ⟨rfl, rfl⟩
            go_wp2_with fail
            go_ret
            exact ⟨rfl, HB3.out⟩
          | some k =>
            rw [hp] at hf
            have hf' : e = .returned (.tuple #[.int .i64 (([] : List Int).getD k 0), .bool true, .bool false]) := hf
            subst hf'
            have hk := (pickI_some hp).1
            have hpn : pickN ([] : List Int).length n = k := by unfold pickN; rw [hp]
            rw [hpn] at HPK
            obtain ⟨b2, o2, c2, he2, hc2⟩ := ints_cell HI3.out hk
            obtain ⟨y, hy⟩ : ∃ y, y = ([] : List Int).getD k 0 := ⟨_, rfl⟩
            rw [← hy] at hc2 ⊢
            simp only [Value.slice.injEq, true_and] at he2
            obtain ⟨e1, e2⟩ := he2
            try subst e1
            try subst e2
            have kg : (0 : Int) ≤ k := by omega
            clear hf hp hpn hin hv hy HI3 HI
            go_wp2_with fail
            refine (HPK.out _).mono ?_
            rintro e w' ⟨rfl, rfl⟩
            go_wp2_with fail
            all_goals
              go_ret
              exact ⟨rfl, HB3.out⟩
        · have hp := pick_far hx1 hfar
          unfold Found at hf
          rw [hp] at hf
          have hf' : e = .returned (.tuple #[.int .i64 0, .bool false, .bool false]) := hf
          subst hf'
          unfold inside at hin
          clear hf hp hfar
          rcases g1 : (FloatKind.f64.format.order f 14069245235905429504 == some Ordering.gt) with _ | _
          · clear hin
            go_wp2_with fail
            go_ret
            exact ⟨rfl, HB3.out⟩
          · rw [g1, Bool.true_and] at hin
            go_wp2_with fail
            go_ret
            exact ⟨rfl, HB3.out⟩
      · simp only [Value.slice.injEq, true_and] at he
        obtain ⟨rfl, rfl⟩ := he
        have HC := Lib.hid hc
        have hmk := mkInt xs.length (by omega)
        clear hc
        go_enter Tryz.func5, Tryz.ntmps5
        go_wp2_with fail
        refine H.out.mono ?_
        rintro e w' ⟨rfl, rfl⟩
        go_wp2_with fail
        have HR := Lib.hid (World.rowIs_made w (.int .i64 0) xs.length 3)
        go_loopw [6] (fun i wr => ∃ k : Nat, k ≤ xs.length ∧ i = .int .i64 k ∧ Hid (Below w.heap.size w wr) ∧ Hid (wr.rowIs w.heap.size 3 xs.length (fillN xs k))) (fun i _ => xs.length - (intOf i).toNat)
        case atStart => exact ⟨0, Nat.zero_le _, rfl, Lib.hid ((Below.refl _ _).alloc (Nat.le_refl _) _), Lib.hid (HR.out.congr fun i _ => by unfold fillN; rw [if_neg (by omega)])⟩
        case round =>
          obtain ⟨k, hk, rfl, HB, HW⟩ := hrel
          clear HR hmk
          by_cases hlt : k < xs.length
          · have hcell : wr.cell? ⟨b, o + k, none⟩ = some (.int .i64 xs[k]) := by
              have h := HC.out k hlt
              rw [(HB.out.cell (p := ⟨b, o + k, none⟩) (lt_of_cell' h)), h]
            have h1 : wr.cell? ⟨w.heap.size, k, none⟩ = some (fillN xs k k) := HW.out.cell hlt
            have h2 : wr.frozen? ⟨w.heap.size, k, none⟩ = false := HW.out.frozen k
            have kg : (0 : Int) ≤ k := by omega
            go_wp2
            go_roundw
            case rel => exact ⟨k + 1, by omega, by go_num, Lib.hid (HB.out.setCell (Nat.le_refl _) _), Lib.hid ((HW.out.set k _).congr fun i _ => fillN_step xs k hlt i)⟩
            case measure => simp [intOf]; omega
          · have HI := Lib.hid (show Ints wr (.slice (some ⟨w.heap.size, 0, none⟩) xs.length xs.length) xs from Or.inr (Or.inr ⟨w.heap.size, 0, xs.length, rfl, fun i hi => by
              rw [Nat.zero_add, HW.out.cell hi]; unfold fillN; rw [if_pos (by omega)]; simp [List.getD, hi]⟩))
            have hkn : k = xs.length := by omega
            clear hkn HW HC
            go_wp2_with fail
            have HZ := Lib.hid (zzIdxFlo _ xs f _ HI.out hx1)
            refine HZ.out.mono ?_
            rintro e w3 ⟨⟨n, hn, hf⟩, hb⟩
            have HI3 := Lib.hid (HI.out.below hb)
            have HB3 := Lib.hid (HB.out.trans (hb.mono HB.out.size))
            clear hb HZ
            rcases hn with ⟨hin, hv⟩ | ⟨hin, hfar⟩
            · unfold inside at hin
              obtain ⟨g1, g2⟩ := Bool.and_eq_true_iff.1 hin
              have hcv := fun w => run_convert_float_int (P := Tryz.prog) (w := w) 39 3 .f64 .i64 f n (by rw [Tryz.underlying39]; rfl) Tryz.underlying3 hv
              have hnb := floVal_bounds hv
              have HPK := Lib.hid (fun W => zzPick xs.length n W hx1 hnb)
              unfold Found at hf
              cases hp : pickI xs.length n with
              | none =>
                rw [hp] at hf
                have hf' : e = .returned (.tuple #[.int .i64 0, .bool false, .bool false]) := hf
                subst hf'
                have hpn : pickN xs.length n = -1 := by unfold pickN; rw [hp]
                rw [hpn] at HPK
                clear hf hp hpn hin hv
                go_wp2_with fail
                refine (HPK.out _).mono ?_
                rintro e w' ⟨rfl, rfl⟩
                go_wp2_with fail
                go_ret
                exact ⟨rfl, HB3.out⟩
              | some k =>
                rw [hp] at hf
                have hf' : e = .returned (.tuple #[.int .i64 (xs.getD k 0), .bool true, .bool false]) := hf
                subst hf'
                have hk := (pickI_some hp).1
                have hpn : pickN xs.length n = k := by unfold pickN; rw [hp]
                rw [hpn] at HPK
                obtain ⟨b2, o2, c2, he2, hc2⟩ := ints_cell HI3.out hk
                obtain ⟨y, hy⟩ : ∃ y, y = xs.getD k 0 := ⟨_, rfl⟩
                rw [← hy] at hc2 ⊢
                simp only [Value.slice.injEq, true_and] at he2
                obtain ⟨e1, e2⟩ := he2
                try subst e1
                try subst e2
                have kg : (0 : Int) ≤ k := by omega
                clear hf hp hpn hin hv hy HI3 HI
                go_wp2_with fail
                refine (HPK.out _).mono ?_
                rintro e w' ⟨rfl, rfl⟩
                go_wp2_with fail
                all_goals
                  go_ret
                  exact ⟨rfl, HB3.out⟩
            · have hp := pick_far hx1 hfar
              unfold Found at hf
              rw [hp] at hf
              have hf' : e = .returned (.tuple #[.int .i64 0, .bool false, .bool false]) := hf
              subst hf'
              unfold inside at hin
              clear hf hp hfar
              rcases g1 : (FloatKind.f64.format.order f 14069245235905429504 == some Ordering.gt) with _ | _
              · clear hin
                go_wp2_with fail
                go_ret
                exact ⟨rfl, HB3.out⟩
              · rw [g1, Bool.true_and] at hin
                go_wp2_with fail
                go_ret
                exact ⟨rfl, HB3.out⟩
end Go.Proofs.YtfgepnbfideliaaGreatDoor
