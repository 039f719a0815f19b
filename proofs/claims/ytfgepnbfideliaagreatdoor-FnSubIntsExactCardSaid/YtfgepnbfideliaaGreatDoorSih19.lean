/- FnSubIntsExact: it returns true. -/
import Derived.Test.YtfgepnbfideliaaGreatDoorSig19
namespace Go.Proofs.YtfgepnbfideliaaGreatDoor
open Go.RowKit
set_option maxRecDepth 100000
set_option maxHeartbeats 4000000
theorem matches_fit (v : Int) (a : Option Addr) (n c : Nat) (neg : Bool) (eh el : Int) (w : World) (h1 : 0 ≤ eh ∧ eh ≤ 18446744073709551615) (h2 : 0 ≤ el ∧ el ≤ 18446744073709551615) (hf : Fits eh el = true) (hv : IntKind.i64.wrap el = v) :
    Calls Tryz.prog 12 #[.int .i64 1, .int .i64 v, .bool neg, .slice a n c, .int .u64 eh, .int .u64 el] w fun e w' => e = .returned (.bool true) ∧ w = w' := by
  have H := Lib.hid (fits19 eh el w h1 h2)
  rw [hf] at H
  clear h1 h2 hf
  go_enter Tryz.func12, Tryz.ntmps12
  go_wp2_with fail
  refine H.out.mono ?_
  rintro e w' ⟨rfl, rfl⟩
  go_wp2_with fail
  go_ret
  exact ⟨by simp, rfl⟩
theorem matches_pos (B : Nat) (el : Int) (w : World) (h2 : 0 ≤ el ∧ el ≤ 18446744073709551615) (hf : Fits 0 el = false) (hc : w.cell? ⟨B, 0, none⟩ = some (.int .u64 el)) :
    Calls Tryz.prog 12 #[.int .i64 3, .int .i64 0, .bool false, .slice (some ⟨B, 0, none⟩) 1 1, .int .u64 0, .int .u64 el] w fun e w' => e = .returned (.bool true) ∧ w = w' := by
  have H := Lib.hid (fits19 0 el w (by omega) h2)
  rw [hf] at H
  clear h2 hf
  go_enter Tryz.func12, Tryz.ntmps12
  go_wp2_with fail
  refine H.out.mono ?_
  rintro e w' ⟨rfl, rfl⟩
  go_wp2_with fail
  go_ret
  exact ⟨by simp, rfl⟩
theorem matches_neg (B : Nat) (el s : Int) (w : World) (h2 : 0 ≤ el ∧ el ≤ 18446744073709551615) (hf : Fits 18446744073709551615 el = false) (hs : 0 < s ∧ s < 18446744073709551616) (he : el = 18446744073709551616 - s) (hc : w.cell? ⟨B, 0, none⟩ = some (.int .u64 s)) :
    Calls Tryz.prog 12 #[.int .i64 3, .int .i64 0, .bool true, .slice (some ⟨B, 0, none⟩) 1 1, .int .u64 18446744073709551615, .int .u64 el] w fun e w' => e = .returned (.bool true) ∧ w = w' := by
  have H := Lib.hid (fits19 18446744073709551615 el w (by omega) h2)
  rw [hf] at H
  have e1 : addHi (18446744073709551615 - 18446744073709551615) (18446744073709551615 - el) 0 1 = 0 := by
    unfold addHi; rw [if_neg (by omega)]; omega
  have e2 : (18446744073709551615 - el + 1) % 18446744073709551616 = s := by omega
  have HN := Lib.hid (neg19 18446744073709551615 el w (by omega) h2)
  rw [e1, e2] at HN
  clear h2 hf e1 e2 he hs
  go_enter Tryz.func12, Tryz.ntmps12
  go_wp2_with fail
  refine H.out.mono ?_
  rintro e w' ⟨rfl, rfl⟩
  go_wp2_with fail
  refine HN.out.mono ?_
  rintro e w' ⟨rfl, rfl⟩
  go_wp2_with fail
  go_ret
  exact ⟨by simp, rfl⟩
theorem fits_iff (d : Int) (h1 : -18446744073709551616 < d) (h2 : d < 18446744073709551616) : Fits (hi64 d) (lo64 d) = decide (-9223372036854775808 ≤ d ∧ d ≤ 9223372036854775807) := by
  unfold Fits hi64 lo64
  by_cases h : d < 0
  · rw [if_pos h]
    by_cases h3 : -9223372036854775808 ≤ d
    · rw [decide_eq_true (by omega), if_neg (by omega)]; rfl
    · rw [decide_eq_false (by omega), if_pos (by omega)]; rfl
  · rw [if_neg h]
    by_cases h3 : d ≤ 9223372036854775807
    · rw [decide_eq_true (by omega), if_pos (by omega)]; rfl
    · rw [decide_eq_false (by omega), if_neg (by omega)]; rfl
/-- The two words of the difference, as the law reckons them, and what zzMatchesTwos says of ZZSubInts' answer. -/
theorem law_SE (w : World) (l : Int) (hl : -9223372036854775808 ≤ l ∧ l ≤ 9223372036854775807) (r : Int) (hr : -9223372036854775808 ≤ r ∧ r ≤ 9223372036854775807) :
    Calls Tryz.prog 3 #[.int .i64 l, .int .i64 r] w fun e w' => e = .returned (.bool true) ∧ Below w.heap.size w w' := by
  obtain ⟨d, hd⟩ : ∃ d, d = l - r := ⟨_, rfl⟩
  have E1 := neg_hi r (by omega)
  have E2 := neg_lo r
  have E3 := add_hi l (-r) hl (by omega)
  have E4 := add_lo l (-r)
  rw [show l + -r = d by omega] at E3 E4
  have W1 := Lib.hid (fun W => wide19 l W hl)
  have W2 := Lib.hid (fun W => wide19 r W hr)
  have N1 := Lib.hid (fun W => neg19 (hi64 r) (lo64 r) W (hi_range r) (lo_range r))
  have A1 := Lib.hid (fun W => add19 (hi64 l) (lo64 l) (hi64 (-r)) (lo64 (-r)) W (hi_range l) (lo_range l) (hi_range (-r)) (lo_range (-r)))
  rw [E1, E2] at N1
  rw [E3, E4] at A1
  have FI := fits_iff d (by omega) (by omega)
  clear E1 E2 E3 E4
  by_cases h : -9223372036854775808 ≤ l - r ∧ l - r ≤ 9223372036854775807
  · have Z := Lib.hid (zz_fit l r w hr h)
    have M := Lib.hid (fun W => matches_fit d none 0 0 false (hi64 d) (lo64 d) W (hi_range d) (lo_range d) (by rw [FI, decide_eq_true (by omega)]) (by rw [IntKind.wrap_i64]; unfold lo64; omega))
    rw [← hd] at Z
    generalize hi64 l = lh at *
    generalize lo64 l = ll at *
    generalize hi64 r = rh at *
    generalize lo64 r = rl at *
    generalize hi64 (-r) = nh at *
    generalize lo64 (-r) = nl at *
    generalize hi64 d = eh at *
    generalize lo64 d = el at *
    clear FI h hd hl hr
    go_enter Tryz.func3, Tryz.ntmps3
    go_wp2_with fail
    refine Z.out.mono ?_
    rintro e w' ⟨rfl, rfl⟩
    go_wp2_with fail
    refine (W1.out _).mono ?_
    rintro e w' ⟨rfl, rfl⟩
    go_wp2_with fail
    refine (W2.out _).mono ?_
    rintro e w' ⟨rfl, rfl⟩
    go_wp2_with fail
    refine (N1.out _).mono ?_
    rintro e w' ⟨rfl, rfl⟩
    go_wp2_with fail
    refine (A1.out _).mono ?_
    rintro e w' ⟨rfl, rfl⟩
    go_wp2_with fail
    refine (M.out _).mono ?_
    rintro e w' ⟨rfl, rfl⟩
    go_wp2_with fail
    go_ret
    exact ⟨rfl, Below.refl _ _⟩
  · have Z := Lib.hid (zz_big l r w hl hr h)
    have M : Hid (∀ W B, W.cell? ⟨B, 0, none⟩ = some (.int .u64 (if l - r < 0 then r - l else l - r)) →
        Calls Tryz.prog 12 #[.int .i64 3, .int .i64 0, .bool (decide (l - r < 0)), .slice (some ⟨B, 0, none⟩) 1 1, .int .u64 (hi64 d), .int .u64 (lo64 d)] W fun e w' => e = .returned (.bool true) ∧ W = w') := Lib.hid (by
      intro W B hc
      by_cases h0 : l - r < 0
      · rw [if_pos h0] at hc
        rw [decide_eq_true h0]
        have e1 : hi64 d = 18446744073709551615 := by unfold hi64; rw [if_pos (by omega)]
        rw [e1] at FI ⊢
        exact matches_neg B (lo64 d) (r - l) W (lo_range d) (by rw [FI, decide_eq_false (by omega)]) (by omega) (by unfold lo64; omega) hc
      · rw [if_neg h0] at hc
        rw [decide_eq_false h0]
        have e1 : hi64 d = 0 := by unfold hi64; rw [if_neg (by omega)]
        have e2 : lo64 d = l - r := by unfold lo64; omega
        rw [← e2] at hc
        rw [e1] at FI ⊢
        exact matches_pos B (lo64 d) W (lo_range d) (by rw [FI, decide_eq_false (by omega)]) hc)
    generalize (if l - r < 0 then r - l else l - r) = s at *
    generalize decide (l - r < 0) = neg at *
    generalize hi64 l = lh at *
    generalize lo64 l = ll at *
    generalize hi64 r = rh at *
    generalize lo64 r = rl at *
    generalize hi64 (-r) = nh at *
    generalize lo64 (-r) = nl at *
    generalize hi64 d = eh at *
    generalize lo64 d = el at *
    clear FI h hd hl hr
    go_enter Tryz.func3, Tryz.ntmps3
    go_wp2_with fail
    refine Z.out.mono ?_
    rintro e w1 ⟨B, rfl, k1, k2⟩
    have HK := Lib.hid (And.intro k1 k2)
    clear k1 k2
    go_wp2_with fail
    refine (W1.out _).mono ?_
    rintro e w' ⟨rfl, rfl⟩
    go_wp2_with fail
    refine (W2.out _).mono ?_
    rintro e w' ⟨rfl, rfl⟩
    go_wp2_with fail
    refine (N1.out _).mono ?_
    rintro e w' ⟨rfl, rfl⟩
    go_wp2_with fail
    refine (A1.out _).mono ?_
    rintro e w' ⟨rfl, rfl⟩
    go_wp2_with fail
    refine (M.out _ B HK.out.1).mono ?_
    rintro e w' ⟨rfl, rfl⟩
    go_wp2_with fail
    go_ret
    exact ⟨rfl, HK.out.2⟩
end Go.Proofs.YtfgepnbfideliaaGreatDoor
