/- Compare on two arrays whose elements Compare answers without a change of the world. -/
import Derived.Test.YtmfigefooicgiaaGreatDoorCmpS
namespace Go.Proofs.YtmfigefooicgiaaGreatDoor
open Go.RowKit
set_option maxRecDepth 100000
set_option maxHeartbeats 1000000
def fnz (g : Nat → Int) (d : Int) : Nat → Nat → Int
  | 0, _ => d
  | r + 1, i => if g i = 0 then fnz g d r (i + 1) else g i
theorem fnz_end (g : Nat → Int) (d : Int) : ∀ r i, (∀ j, i ≤ j → j < i + r → g j = 0) → fnz g d r i = d
  | 0, _, _ => rfl
  | r + 1, i, h => by
    rw [fnz, if_pos (h i (Nat.le_refl _) (by omega))]
    exact fnz_end g d r (i + 1) fun j h1 h2 => h j (by omega) (by omega)
theorem fnz_at (g : Nat → Int) (d : Int) : ∀ r i k, (∀ j, i ≤ j → j < k → g j = 0) → i ≤ k → k < i + r → g k ≠ 0 → fnz g d r i = g k
  | 0, _, _, _, _, _, _ => by omega
  | r + 1, i, k, h, h1, h2, hk => by
    by_cases e : i = k
    · subst e; rw [fnz, if_neg hk]
    · rw [fnz, if_pos (h i (Nat.le_refl _) (by omega))]
      exact fnz_at g d r (i + 1) k (fun j h3 h4 => h j (by omega) (by omega)) (by omega) (by omega) hk
theorem cmpArr_core (N m n c d b1 o1 b2 o2 : Nat) (xs ys : Nat → Value) (g : Nat → Int) (w : World) (hm : (m : Int) ≤ 1048576) (hn : (n : Int) ≤ 1048576) (hN : (N = n ∧ N < m) ∨ (N = m ∧ N ≤ n))
    (hx : ∀ i, i < m → w.cell? ⟨b1, o1 + i, none⟩ = some (xs i)) (hy : ∀ i, i < n → w.cell? ⟨b2, o2 + i, none⟩ = some (ys i))
    (hg : ∀ i, i < m → i < n → ∀ W, Calls Tryz.prog 19 #[xs i, ys i] W fun e w' => e = .returned (.int .i64 (g i)) ∧ W = w') :
    Calls Tryz.prog 32 #[.slice (some ⟨b1, o1, none⟩) m c, .slice (some ⟨b2, o2, none⟩) n d] w fun e w' => e = .returned (.int .i64 (fnz g (cmpI m n) N 0)) ∧ ∃ q, w' = w.drewN q := by
  have HX := Lib.hid hx
  have HY := Lib.hid hy
  have HG := Lib.hid hg
  clear hx hy hg
  rcases hN with ⟨rfl, h⟩ | ⟨rfl, h⟩
  all_goals
    go_enter Tryz.func32, Tryz.ntmps32
    go_wp2_with fail
    go_loopw [12, 5] (fun i _ wr => ∃ k : Nat, k ≤ N ∧ i = .int .i64 k ∧ Hid (∀ j, j < k → g j = 0) ∧ Hid (∃ q, wr = w.drewN q)) (fun i _ _ => N - (intOf i).toNat)
    case atStart => exact ⟨0, Nat.zero_le _, rfl, Lib.hid (fun j h => by omega), Lib.hid ⟨0, rfl⟩⟩
    case round =>
      obtain ⟨k, hk, rfl, hz, hq⟩ := hrel
      by_cases hlt : k < N
      · have cx : wr.cell? ⟨b1, o1 + k, none⟩ = some (xs k) := by obtain ⟨q, e⟩ := hq.out; rw [e, World.cell?_drewN]; exact HX.out k (by omega)
        have cy : wr.cell? ⟨b2, o2 + k, none⟩ = some (ys k) := by obtain ⟨q, e⟩ := hq.out; rw [e, World.cell?_drewN]; exact HY.out k (by omega)
        have kg : (0 : Int) ≤ k := by omega
        have km : (k : Int) < N := by omega
        by_cases hgk : g k = 0
        · have t0 : (g k != 0) = false := by simp [hgk]
          have HK := Lib.hid hgk
          clear hgk
          go_wp2_with fail
          go_quiet ((go_at_call 19; exact Calls.quiet_of_same ((HG.out k (by omega) (by omega) _).mono fun _ _ ⟨h1, h2⟩ => ⟨h1, h2.symm⟩)))
          go_wp2_with fail
          go_roundw
          case rel =>
            obtain ⟨q, e⟩ := hq.out
            exact ⟨k + 1, by omega, by go_num, Lib.hid (fun j hj => by by_cases e : j = k; subst e; exact HK.out; exact hz.out j (by omega)), Lib.hid ⟨_, by rw [e, World.drewN_drewN]⟩⟩
          case measure => simp [intOf]; omega
        · have t0 : (g k != 0) = true := by simp [hgk]
          have HK := Lib.hid hgk
          clear hgk
          go_wp2_with fail
          go_quiet ((go_at_call 19; exact Calls.quiet_of_same ((HG.out k (by omega) (by omega) _).mono fun _ _ ⟨h1, h2⟩ => ⟨h1, h2.symm⟩)))
          go_wp2_with fail
          go_ret
          obtain ⟨q, e⟩ := hq.out
          refine ⟨?_, _, by rw [e, World.drewN_drewN]⟩
          rw [fnz_at g _ N 0 k (fun j _ h => hz.out j h) (Nat.zero_le _) (by omega) HK.out]
          rfl
      · have hge : ¬ (k : Int) < N := by omega
        go_wp2_with (go_at_call 27; refine (cmpInt _ _ _).mono ?_; rintro e w' ⟨rfl, rfl⟩)
        go_ret
        obtain ⟨q, e⟩ := hq.out
        refine ⟨?_, q, e⟩
        rw [fnz_end g _ N 0 (fun j _ h => hz.out j (by omega))]
        rfl
theorem cmpArr (m n c d b1 o1 b2 o2 : Nat) (xs ys : Nat → Value) (g : Nat → Int) (w : World) (hm : (m : Int) ≤ 1048576) (hn : (n : Int) ≤ 1048576)
    (hx : ∀ i, i < m → w.cell? ⟨b1, o1 + i, none⟩ = some (xs i)) (hy : ∀ i, i < n → w.cell? ⟨b2, o2 + i, none⟩ = some (ys i))
    (hg : ∀ i, i < m → i < n → ∀ W, Calls Tryz.prog 19 #[xs i, ys i] W fun e w' => e = .returned (.int .i64 (g i)) ∧ W = w') :
    Calls Tryz.prog 32 #[.slice (some ⟨b1, o1, none⟩) m c, .slice (some ⟨b2, o2, none⟩) n d] w fun e w' => e = .returned (.int .i64 (fnz g (cmpI m n) (min m n) 0)) ∧ ∃ q, w' = w.drewN q :=
  cmpArr_core (min m n) m n c d b1 o1 b2 o2 xs ys g w hm hn (by omega) hx hy hg
/-- The same with nil slices let by: 'cells' speaks of what lies below the length alone. -/
theorem cmpArr_any (m n c d : Nat) (p q : Option Addr) (xs ys : Nat → Value) (g : Nat → Int) (w : World) (hm : (m : Int) ≤ 1048576) (hn : (n : Int) ≤ 1048576)
    (hp : ∃ b o, p = some ⟨b, o, none⟩ ∧ ∀ i, i < m → w.cell? ⟨b, o + i, none⟩ = some (xs i)) (hq : ∃ b o, q = some ⟨b, o, none⟩ ∧ ∀ i, i < n → w.cell? ⟨b, o + i, none⟩ = some (ys i))
    (hg : ∀ i, i < m → i < n → ∀ W, Calls Tryz.prog 19 #[xs i, ys i] W fun e w' => e = .returned (.int .i64 (g i)) ∧ W = w') :
    Calls Tryz.prog 19 #[.iface 46 (.slice p m c), .iface 46 (.slice q n d)] w fun e w' => e = .returned (.int .i64 (fnz g (cmpI m n) (min m n) 0)) ∧ ∃ q, w' = w.drewN q := by
  obtain ⟨b1, o1, rfl, hx⟩ := hp
  obtain ⟨b2, o2, rfl, hy⟩ := hq
  have H := Lib.hid (cmpArr m n c d b1 o1 b2 o2 xs ys g w hm hn hx hy hg)
  clear hx hy hg
  go_enter Tryz.func19, Tryz.ntmps19
  go_wp2_with fail
  refine Calls.mono (R := fun e w' => e = .returned (.int .i64 (fnz g (cmpI m n) (min m n) 0)) ∧ ∃ q, w' = w.drewN q) ?_ ?_
  · go_enter Tryz.func26, Tryz.ntmps26
    go_wp2_with fail
    refine H.out.mono ?_
    rintro e w' ⟨rfl, hw⟩
    have HW := Lib.hid hw
    clear hw
    go_wp2_with fail
    go_ret
    exact ⟨rfl, HW.out⟩
  · rintro e w' ⟨rfl, hw⟩
    have HW := Lib.hid hw
    clear hw
    go_wp2_with fail
    go_ret
    exact ⟨rfl, HW.out⟩
end Go.Proofs.YtmfigefooicgiaaGreatDoor
