/- zzEqInts of two slices that hold the same ints. -/
import Derived.Test.YtlhgfijpagfhpaaGreatDoorInts
import Derived.Deep.QuietTactic
import Derived.BigQuiet
namespace Go.Proofs.YtlhgfijpagfhpaaGreatDoor
open Go.RowKit
set_option maxRecDepth 100000
set_option maxHeartbeats 4000000
theorem eqInts (v x : Value) (xs : List Int) (W : World) (hv : Ints W v xs) (hx : Ints W x xs) (hn : (xs.length : Int) ≤ 1048576) :
    Calls Tryz.prog 14 #[v, x] W fun e w' => e = .returned (.bool true) ∧ Below W.heap.size W w' := by
  by_cases h0 : xs.length = 0
  · have hv' : ∃ p c, v = .slice p 0 c := by
      rcases hv with ⟨rfl, rfl⟩ | ⟨p0, cap, rfl, rfl⟩ | ⟨b, o, cap, rfl, hc⟩
      · exact ⟨_, _, rfl⟩
      · exact ⟨_, _, rfl⟩
      · exact ⟨_, _, by rw [h0]⟩
    have hx' : ∃ p c, x = .slice p 0 c := by
      rcases hx with ⟨rfl, rfl⟩ | ⟨p0, cap, rfl, rfl⟩ | ⟨b, o, cap, rfl, hc⟩
      · exact ⟨_, _, rfl⟩
      · exact ⟨_, _, rfl⟩
      · exact ⟨_, _, by rw [h0]⟩
    obtain ⟨p, c, rfl⟩ := hv'
    obtain ⟨p2, c2, rfl⟩ := hx'
    clear hv hx h0
    go_enter Tryz.func14, Tryz.ntmps14
    go_wp2
    refine wp_loop_rounds 1 ?_
    rw [rounds_succ]
    go_wp2
    go_ret
    exact ⟨rfl, Below.refl _ _⟩
  · have hv' : ∃ b o c, v = .slice (some ⟨b, o, none⟩) xs.length c ∧ ∀ i, (h : i < xs.length) → W.cell? ⟨b, o + i, none⟩ = some (.int .i64 xs[i]) := by
      rcases hv with ⟨rfl, rfl⟩ | ⟨p0, cap, rfl, rfl⟩ | ⟨b, o, cap, rfl, hc⟩
      · exact (h0 rfl).elim
      · exact (h0 rfl).elim
      · exact ⟨b, o, cap, rfl, hc⟩
    have hx' : ∃ b o c, x = .slice (some ⟨b, o, none⟩) xs.length c ∧ ∀ i, (h : i < xs.length) → W.cell? ⟨b, o + i, none⟩ = some (.int .i64 xs[i]) := by
      rcases hx with ⟨rfl, rfl⟩ | ⟨p0, cap, rfl, rfl⟩ | ⟨b, o, cap, rfl, hc⟩
      · exact (h0 rfl).elim
      · exact (h0 rfl).elim
      · exact ⟨b, o, cap, rfl, hc⟩
    obtain ⟨b, o, c, rfl, hc⟩ := hv'
    obtain ⟨b2, o2, c2, rfl, hc2⟩ := hx'
    have HC := Lib.hid hc
    have HC2 := Lib.hid hc2
    clear hv hx h0 hc hc2
    go_enter Tryz.func14, Tryz.ntmps14
    go_wp2
    go_loopw [5] (fun i wr => ∃ k : Nat, k ≤ xs.length ∧ i = .int .i64 k ∧ Hid (∃ q, wr = W.drewN q)) (fun i _ => xs.length - (intOf i).toNat)
    case atStart => exact ⟨0, Nat.zero_le _, rfl, Lib.hid ⟨0, rfl⟩⟩
    case round =>
      obtain ⟨k, hk, rfl, HW⟩ := hrel
      by_cases hlt : k < xs.length
      · have e1 : wr.cell? ⟨b, o + k, none⟩ = some (.int .i64 xs[k]) := by obtain ⟨q, rfl⟩ := HW.out; exact HC.out k hlt
        have e2 : wr.cell? ⟨b2, o2 + k, none⟩ = some (.int .i64 xs[k]) := by obtain ⟨q, rfl⟩ := HW.out; exact HC2.out k hlt
        have kg : (0 : Int) ≤ k := by omega
        go_wp2
        go_quiet (fail)
        go_wp2
        go_roundw
        case rel => exact ⟨k + 1, by omega, by go_num, Lib.hid (by obtain ⟨q, rfl⟩ := HW.out; exact ⟨q + nq, by simp [World.drewN, Nat.add_assoc]⟩)⟩
        case measure => simp [intOf]; omega
      · go_wp2
        go_ret
        exact ⟨rfl, by obtain ⟨q, rfl⟩ := HW.out; exact ⟨rfl, rfl, rfl, Nat.le_refl _, fun _ _ => rfl⟩⟩
end Go.Proofs.YtlhgfijpagfhpaaGreatDoor
