/- The model of FnCompareMatchesModel and its walk: it returns true. -/
import Derived.Test.YtmfigefooicgiaaGreatDoorAS44
namespace Go.Proofs.YtmfigefooicgiaaGreatDoor
open Go.RowKit
set_option maxRecDepth 100000
set_option maxHeartbeats 4000000
theorem mInt (a b : Int) (w : World) : Calls Tryz.prog 22 #[.int .i64 a, .int .i64 b] w fun e w' => e = .returned (.int .i64 (cmpI a b)) ∧ w = w' := by
  unfold cmpI
  by_cases h1 : a < b
  · rw [if_pos h1]
    go_enter Tryz.func22, Tryz.ntmps22
    go_wp2
    go_ret
    exact ⟨rfl, rfl⟩
  · rw [if_neg h1]
    by_cases h2 : b < a
    · rw [if_pos h2]
      go_enter Tryz.func22, Tryz.ntmps22
      go_wp2
      go_ret
      exact ⟨rfl, rfl⟩
    · rw [if_neg h2]
      go_enter Tryz.func22, Tryz.ntmps22
      go_wp2
      go_ret
      exact ⟨rfl, rfl⟩
theorem mFlo (a b : Nat) (w : World) : Calls Tryz.prog 23 #[.float .f64 a, .float .f64 b] w fun e w' => e = .returned (.int .i64 (cmpF a b)) ∧ w = w' := by
  by_cases na : nn a
  · by_cases nb : nn b
    · obtain ⟨o, ho⟩ := order_some na nb
      unfold nn at na nb
      have t1 : (FloatKind.f64.format.order a a != some Ordering.eq) = false := by simp [na]
      have t2 : (FloatKind.f64.format.order b b != some Ordering.eq) = false := by simp [nb]
      cases o with
      | lt =>
        have e : cmpF a b = -1 := by unfold cmpF; rw [ho]; rfl
        have t3 : (FloatKind.f64.format.order a b == some Ordering.lt) = true := by simp [ho]
        rw [e]
        clear e na nb ho
        go_enter Tryz.func23, Tryz.ntmps23
        go_wp2
        go_ret
        exact ⟨rfl, rfl⟩
      | eq =>
        have e : cmpF a b = 0 := by unfold cmpF; rw [ho, na]; rfl
        have t3 : (FloatKind.f64.format.order a b == some Ordering.lt) = false := by simp [ho]
        have t4 : (FloatKind.f64.format.order a b == some Ordering.gt) = false := by simp [ho]
        rw [e]
        clear e na nb ho
        go_enter Tryz.func23, Tryz.ntmps23
        go_wp2
        go_ret
        exact ⟨rfl, rfl⟩
      | gt =>
        have e : cmpF a b = 1 := by unfold cmpF; rw [ho, na]; rfl
        have t3 : (FloatKind.f64.format.order a b == some Ordering.lt) = false := by simp [ho]
        have t4 : (FloatKind.f64.format.order a b == some Ordering.gt) = true := by simp [ho]
        rw [e]
        clear e na nb ho
        go_enter Tryz.func23, Tryz.ntmps23
        go_wp2
        go_ret
        exact ⟨rfl, rfl⟩
    · have hn := (order_nan nb a).2
      have t1 : (FloatKind.f64.format.order a a != some Ordering.eq) = false := by unfold nn at na; simp [na]
      have t2 : (FloatKind.f64.format.order b b != some Ordering.eq) = true := by unfold nn at nb; simpa using nb
      have e : cmpF a b = 1 := by unfold cmpF; unfold nn at na; rw [hn, na]; rfl
      rw [e]
      clear e na nb hn
      go_enter Tryz.func23, Tryz.ntmps23
      go_wp2
      go_ret
      exact ⟨rfl, rfl⟩
  · have t1 : (FloatKind.f64.format.order a a != some Ordering.eq) = true := by unfold nn at na; simpa using na
    have e : cmpF a b = -1 := by unfold cmpF; rw [t1]; simp
    rw [e]
    clear e na
    go_enter Tryz.func23, Tryz.ntmps23
    go_wp2
    go_ret
    exact ⟨rfl, rfl⟩
theorem cmpI_lt {a b : Int} (h : a < b) : cmpI a b = -1 := by unfold cmpI; rw [if_pos h]
theorem cmpI_gt {a b : Int} (h : b < a) : cmpI a b = 1 := by unfold cmpI; rw [if_neg (by omega), if_pos h]
theorem cmpI_eq {a b : Int} (h : a = b) : cmpI a b = 0 := by unfold cmpI; rw [if_neg (by omega), if_neg (by omega)]
theorem mInts0 (p q : Option Addr) (m n c d : Nat) (w : World) (hm : (m : Int) ≤ 1048576) (hn : (n : Int) ≤ 1048576) (h0 : m = 0 ∨ n = 0) :
    Calls Tryz.prog 25 #[.slice p m c, .slice q n d] w fun e w' => e = .returned (.int .i64 (cmpI m n)) ∧ w = w' := by
  have hmn : min m n = 0 := by omega
  by_cases h : n < m
  · obtain rfl : n = 0 := by omega
    go_enter Tryz.func25, Tryz.ntmps25
    go_wp2_with fail
    refine wp_loop_rounds 1 ?_
    rw [rounds_succ]
    go_wp2_with (go_at_call 22; refine (mInt _ _ _).mono ?_; rintro e w' ⟨rfl, rfl⟩)
    go_ret
    exact ⟨rfl, rfl⟩
  · obtain rfl : m = 0 := by omega
    go_enter Tryz.func25, Tryz.ntmps25
    go_wp2_with fail
    refine wp_loop_rounds 1 ?_
    rw [rounds_succ]
    go_wp2_with (go_at_call 22; refine (mInt _ _ _).mono ?_; rintro e w' ⟨rfl, rfl⟩)
    go_ret
    exact ⟨rfl, rfl⟩
theorem mInts_core (N m n c d b1 o1 b2 o2 : Nat) (xs ys : Nat → Int) (w : World) (hm : (m : Int) ≤ 1048576) (hn : (n : Int) ≤ 1048576) (hN : (N = n ∧ N < m) ∨ (N = m ∧ N ≤ n))
    (hx : ∀ i, i < m → w.cell? ⟨b1, o1 + i, none⟩ = some (.int .i64 (xs i))) (hy : ∀ i, i < n → w.cell? ⟨b2, o2 + i, none⟩ = some (.int .i64 (ys i))) :
    Calls Tryz.prog 25 #[.slice (some ⟨b1, o1, none⟩) m c, .slice (some ⟨b2, o2, none⟩) n d] w fun e w' => e = .returned (.int .i64 (fnz (fun i => cmpI (xs i) (ys i)) (cmpI m n) N 0)) ∧ ∃ q, w' = w.drewN q := by
  have HX := Lib.hid hx
  have HY := Lib.hid hy
  clear hx hy
  rcases hN with ⟨rfl, h⟩ | ⟨rfl, h⟩
  all_goals
    try have t0 : decide (n < N) = false := by simp only [decide_eq_false_iff_not]; omega
    go_enter Tryz.func25, Tryz.ntmps25
    go_wp2_with fail
    go_loopw [6] (fun i wr => ∃ k : Nat, k ≤ N ∧ i = .int .i64 k ∧ Hid (∀ j, j < k → cmpI (xs j) (ys j) = 0) ∧ Hid (∃ q, wr = w.drewN q)) (fun i _ => N - (intOf i).toNat)
    case atStart => exact ⟨0, Nat.zero_le _, rfl, Lib.hid (fun j h => by omega), Lib.hid ⟨0, rfl⟩⟩
    case round =>
      obtain ⟨k, hk, rfl, hz, hq⟩ := hrel
      by_cases hlt : k < N
      · have cx : wr.cell? ⟨b1, o1 + k, none⟩ = some (.int .i64 (xs k)) := by obtain ⟨q, e⟩ := hq.out; rw [e, World.cell?_drewN]; exact HX.out k (by omega)
        have cy : wr.cell? ⟨b2, o2 + k, none⟩ = some (.int .i64 (ys k)) := by obtain ⟨q, e⟩ := hq.out; rw [e, World.cell?_drewN]; exact HY.out k (by omega)
        have kg : (0 : Int) ≤ k := by omega
        have km : (k : Int) < N := by omega
        by_cases h1 : xs k < ys k
        · go_wp2_with fail
          go_quiet (fail)
          go_wp2_with fail
          go_ret
          obtain ⟨q, e⟩ := hq.out
          refine ⟨?_, _, by rw [e, World.drewN_drewN]⟩
          rw [fnz_at (fun i => cmpI (xs i) (ys i)) _ N 0 k (fun j _ h => hz.out j h) (Nat.zero_le _) (by omega) (by rw [cmpI_lt h1]; decide), cmpI_lt h1]
          rfl
        · by_cases h2 : ys k < xs k
          · go_wp2_with fail
            go_quiet (fail)
            go_wp2_with fail
            go_quiet (fail)
            go_wp2_with fail
            go_ret
            obtain ⟨q, e⟩ := hq.out
            refine ⟨?_, _, by rw [e, World.drewN_drewN, World.drewN_drewN]⟩
            rw [fnz_at (fun i => cmpI (xs i) (ys i)) _ N 0 k (fun j _ h => hz.out j h) (Nat.zero_le _) (by omega) (by rw [cmpI_gt h2]; decide), cmpI_gt h2]
            rfl
          · have h3 := Lib.hid (cmpI_eq (show xs k = ys k by omega))
            go_wp2_with fail
            go_quiet (fail)
            go_wp2_with fail
            go_quiet (fail)
            go_wp2_with fail
            go_roundw
            case rel =>
              obtain ⟨q, e⟩ := hq.out
              exact ⟨k + 1, by omega, by go_num, Lib.hid (fun j hj => by by_cases e : j = k; subst e; exact h3.out; exact hz.out j (by omega)), Lib.hid ⟨_, by rw [e, World.drewN_drewN]⟩⟩
            case measure => simp [intOf]; omega
      · have hge : ¬ (k : Int) < N := by omega
        go_wp2_with (go_at_call 22; refine (mInt _ _ _).mono ?_; rintro e w' ⟨rfl, rfl⟩)
        go_ret
        obtain ⟨q, e⟩ := hq.out
        refine ⟨?_, q, e⟩
        rw [fnz_end (fun i => cmpI (xs i) (ys i)) _ N 0 (fun j _ h => hz.out j (by omega))]
        rfl
def byteI (s : ByteArray) (i : Nat) : Int := if h : i < s.size then (s[i].toNat : Int) else 0
theorem byteI_at {s : ByteArray} {i : Nat} (h : i < s.size) : byteI s i = (s[i].toNat : Int) := by unfold byteI; rw [dif_pos h]
theorem mBytes_core (N : Nat) (s t : ByteArray) (w : World) (hm : (s.size : Int) ≤ 1048576) (hn : (t.size : Int) ≤ 1048576) (hN : (N = t.size ∧ N < s.size) ∨ (N = s.size ∧ N ≤ t.size)) :
    Calls Tryz.prog 24 #[.string s, .string t] w fun e w' => e = .returned (.int .i64 (fnz (fun i => cmpI (byteI s i) (byteI t i)) (cmpI s.size t.size) N 0)) ∧ ∃ q, w' = w.drewN q := by
  rcases hN with ⟨hN', h⟩ | ⟨hN', h⟩
  · subst hN'
    go_enter Tryz.func24, Tryz.ntmps24
    go_wp2_with fail
    go_loopw [6] (fun i wr => ∃ k : Nat, k ≤ t.size ∧ i = .int .i64 k ∧ Hid (∀ j, j < k → cmpI (byteI s j) (byteI t j) = 0) ∧ Hid (∃ q, wr = w.drewN q)) (fun i _ => t.size - (intOf i).toNat)
    case atStart => exact ⟨0, Nat.zero_le _, rfl, Lib.hid (fun j h => by omega), Lib.hid ⟨0, rfl⟩⟩
    case round =>
      obtain ⟨k, hk, rfl, hz, hq⟩ := hrel
      by_cases hlt : k < t.size
      · have bx : k < s.size := by omega
        have bw : k < t.size := by omega
        have kg : (0 : Int) ≤ k := by omega
        have km : (k : Int) < t.size := by omega
        by_cases h1 : byteI s k < byteI t k
        · have k1 : (s[k].toNat : Int) < (t[k].toNat : Int) := by rw [byteI_at bx, byteI_at bw] at h1; exact h1
          have H1 := Lib.hid h1
          clear h1
          go_wp2_with fail
          go_quiet (fail)
          go_wp2_with fail
          go_ret
          obtain ⟨q, e⟩ := hq.out
          refine ⟨?_, _, by rw [e, World.drewN_drewN]⟩
          rw [fnz_at (fun i => cmpI (byteI s i) (byteI t i)) _ t.size 0 k (fun j _ h => hz.out j h) (Nat.zero_le _) (by omega) (by rw [cmpI_lt H1.out]; decide), cmpI_lt H1.out]
          rfl
        · by_cases h2 : byteI t k < byteI s k
          · have k1 : (t[k].toNat : Int) < (s[k].toNat : Int) := by rw [byteI_at bx, byteI_at bw] at h2; exact h2
            have H1 := Lib.hid h2
            clear h1 h2
            go_wp2_with fail
            go_quiet (fail)
            go_wp2_with fail
            go_quiet (fail)
            go_wp2_with fail
            go_ret
            obtain ⟨q, e⟩ := hq.out
            refine ⟨?_, _, by rw [e, World.drewN_drewN, World.drewN_drewN]⟩
            rw [fnz_at (fun i => cmpI (byteI s i) (byteI t i)) _ t.size 0 k (fun j _ h => hz.out j h) (Nat.zero_le _) (by omega) (by rw [cmpI_gt H1.out]; decide), cmpI_gt H1.out]
            rfl
          · have h3 := Lib.hid (cmpI_eq (show byteI s k = byteI t k by omega))
            have k1 : ¬ (s[k].toNat : Int) < (t[k].toNat : Int) := by rw [byteI_at bx, byteI_at bw] at h1; exact h1
            have k2 : ¬ (t[k].toNat : Int) < (s[k].toNat : Int) := by rw [byteI_at bx, byteI_at bw] at h2; exact h2
            clear h1 h2
            go_wp2_with fail
            go_quiet (fail)
            go_wp2_with fail
            go_quiet (fail)
            go_wp2_with fail
            go_roundw
            case rel =>
              obtain ⟨q, e⟩ := hq.out
              exact ⟨k + 1, by omega, by go_num, Lib.hid (fun j hj => by by_cases e : j = k; subst e; exact h3.out; exact hz.out j (by omega)), Lib.hid ⟨_, by rw [e, World.drewN_drewN]⟩⟩
            case measure => simp [intOf]; omega
      · have hge : ¬ (k : Int) < t.size := by omega
        go_wp2_with (go_at_call 22; refine (mInt _ _ _).mono ?_; rintro e w' ⟨rfl, rfl⟩)
        go_ret
        obtain ⟨q, e⟩ := hq.out
        refine ⟨?_, q, e⟩
        rw [fnz_end (fun i => cmpI (byteI s i) (byteI t i)) _ t.size 0 (fun j _ h => hz.out j (by omega))]
        rfl
  · subst hN'
    have t0 : decide (t.size < s.size) = false := by simp only [decide_eq_false_iff_not]; omega
    go_enter Tryz.func24, Tryz.ntmps24
    go_wp2_with fail
    go_loopw [6] (fun i wr => ∃ k : Nat, k ≤ s.size ∧ i = .int .i64 k ∧ Hid (∀ j, j < k → cmpI (byteI s j) (byteI t j) = 0) ∧ Hid (∃ q, wr = w.drewN q)) (fun i _ => s.size - (intOf i).toNat)
    case atStart => exact ⟨0, Nat.zero_le _, rfl, Lib.hid (fun j h => by omega), Lib.hid ⟨0, rfl⟩⟩
    case round =>
      obtain ⟨k, hk, rfl, hz, hq⟩ := hrel
      by_cases hlt : k < s.size
      · have bx : k < s.size := by omega
        have bw : k < t.size := by omega
        have kg : (0 : Int) ≤ k := by omega
        have km : (k : Int) < s.size := by omega
        by_cases h1 : byteI s k < byteI t k
        · have k1 : (s[k].toNat : Int) < (t[k].toNat : Int) := by rw [byteI_at bx, byteI_at bw] at h1; exact h1
          have H1 := Lib.hid h1
          clear h1
          go_wp2_with fail
          go_quiet (fail)
          go_wp2_with fail
          go_ret
          obtain ⟨q, e⟩ := hq.out
          refine ⟨?_, _, by rw [e, World.drewN_drewN]⟩
          rw [fnz_at (fun i => cmpI (byteI s i) (byteI t i)) _ s.size 0 k (fun j _ h => hz.out j h) (Nat.zero_le _) (by omega) (by rw [cmpI_lt H1.out]; decide), cmpI_lt H1.out]
          rfl
        · by_cases h2 : byteI t k < byteI s k
          · have k1 : (t[k].toNat : Int) < (s[k].toNat : Int) := by rw [byteI_at bx, byteI_at bw] at h2; exact h2
            have H1 := Lib.hid h2
            clear h1 h2
            go_wp2_with fail
            go_quiet (fail)
            go_wp2_with fail
            go_quiet (fail)
            go_wp2_with fail
            go_ret
            obtain ⟨q, e⟩ := hq.out
            refine ⟨?_, _, by rw [e, World.drewN_drewN, World.drewN_drewN]⟩
            rw [fnz_at (fun i => cmpI (byteI s i) (byteI t i)) _ s.size 0 k (fun j _ h => hz.out j h) (Nat.zero_le _) (by omega) (by rw [cmpI_gt H1.out]; decide), cmpI_gt H1.out]
            rfl
          · have h3 := Lib.hid (cmpI_eq (show byteI s k = byteI t k by omega))
            have k1 : ¬ (s[k].toNat : Int) < (t[k].toNat : Int) := by rw [byteI_at bx, byteI_at bw] at h1; exact h1
            have k2 : ¬ (t[k].toNat : Int) < (s[k].toNat : Int) := by rw [byteI_at bx, byteI_at bw] at h2; exact h2
            clear h1 h2
            go_wp2_with fail
            go_quiet (fail)
            go_wp2_with fail
            go_quiet (fail)
            go_wp2_with fail
            go_roundw
            case rel =>
              obtain ⟨q, e⟩ := hq.out
              exact ⟨k + 1, by omega, by go_num, Lib.hid (fun j hj => by by_cases e : j = k; subst e; exact h3.out; exact hz.out j (by omega)), Lib.hid ⟨_, by rw [e, World.drewN_drewN]⟩⟩
            case measure => simp [intOf]; omega
      · have hge : ¬ (k : Int) < s.size := by omega
        go_wp2_with (go_at_call 22; refine (mInt _ _ _).mono ?_; rintro e w' ⟨rfl, rfl⟩)
        go_ret
        obtain ⟨q, e⟩ := hq.out
        refine ⟨?_, q, e⟩
        rw [fnz_end (fun i => cmpI (byteI s i) (byteI t i)) _ s.size 0 (fun j _ h => hz.out j (by omega))]
        rfl
end Go.Proofs.YtmfigefooicgiaaGreatDoor
