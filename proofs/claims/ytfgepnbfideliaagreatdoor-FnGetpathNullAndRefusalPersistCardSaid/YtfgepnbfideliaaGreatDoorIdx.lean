/- clampIndex, toInt on an int, index: what each call answers. -/
import Derived.Test.YtfgepnbfideliaaGreatDoorTa
namespace Go.Proofs.YtfgepnbfideliaaGreatDoor
open Go.RowKit
set_option maxRecDepth 100000
set_option maxHeartbeats 4000000
/-- Where an index falls. -/
def pickI (n : Nat) (i : Int) : Option Nat := if 0 ≤ i ∧ i < n then some i.toNat else if i < 0 ∧ 0 ≤ i + n then some (i + n).toNat else none
theorem pickI_some {n : Nat} {i : Int} {k : Nat} (h : pickI n i = some k) : k < n ∧ (if i < 0 then i + n else i) = k := by
  unfold pickI at h
  split at h
  · simp only [Option.some.injEq] at h; subst h; rw [if_neg (by omega)]; omega
  · split at h
    · simp only [Option.some.injEq] at h; subst h; rw [if_pos (by omega)]; omega
    · cases h
theorem pickI_none {n : Nat} {i : Int} (h : pickI n i = none) : (if i < 0 then i + n else i) < 0 ∨ (n : Int) ≤ (if i < 0 then i + n else i) := by
  unfold pickI at h
  split at h
  · cases h
  · split at h
    · cases h
    · split <;> omega
def ClampTo (i l j : Int) : Prop := (if i < 0 then i + l else i) < -1 ∧ j = -1 ∨ -1 ≤ (if i < 0 then i + l else i) ∧ (if i < 0 then i + l else i) < l ∧ j = (if i < 0 then i + l else i) ∨ l ≤ (if i < 0 then i + l else i) ∧ j = l
def Clamped (i l : Int) (w : World) (e : Ending) (w' : World) : Prop := (∃ j : Int, e = .returned (.int .i64 j) ∧ ClampTo i l j) ∧ w = w'
theorem clamp_any (i l : Int) (w : World) (hi : -9223372036854775808 ≤ i ∧ i ≤ 9223372036854775807) (hl : 0 ≤ l ∧ l ≤ 1048576) :
    Calls Tryz.prog 73 #[.int .i64 i, .int .i64 (-1), .int .i64 l] w (Clamped i l w) := by
  by_cases h : i < 0
  · by_cases h1 : i + l < -1
    · go_enter Tryz.func73, Tryz.ntmps73
      go_wp2
      go_ret
      exact ⟨⟨_, rfl, by unfold ClampTo; rw [if_pos (by omega)]; omega⟩, rfl⟩
    · go_enter Tryz.func73, Tryz.ntmps73
      go_wp2
      go_ret
      exact ⟨⟨_, rfl, by unfold ClampTo; rw [if_pos (by omega)]; omega⟩, rfl⟩
  · by_cases h1 : i < l
    · go_enter Tryz.func73, Tryz.ntmps73
      go_wp2
      go_ret
      exact ⟨⟨_, rfl, by unfold ClampTo; rw [if_neg (by omega)]; omega⟩, rfl⟩
    · go_enter Tryz.func73, Tryz.ntmps73
      go_wp2
      go_ret
      exact ⟨⟨_, rfl, by unfold ClampTo; rw [if_neg (by omega)]; omega⟩, rfl⟩
theorem toInt_int (n : Int) (w : World) :
    Calls Tryz.prog 49 #[.iface 3 (.int .i64 n)] w fun e w' => e = .returned (.tuple #[.int .i64 n, .bool true]) ∧ w = w' := by
  go_enter Tryz.func49, Tryz.ntmps49
  go_wp2
  go_ret2
  exact ⟨rfl, rfl⟩
theorem index_hit (b o c len k : Nat) (v : Value) (i : Int) (w : World) (hl : (len : Int) ≤ 1048576) (hi : -9223372036854775808 ≤ i ∧ i ≤ 9223372036854775807) (hp : pickI len i = some k) (hc : w.cell? ⟨b, o + k, none⟩ = some v) :
    Calls Tryz.prog 50 #[.slice (some ⟨b, o, none⟩) len c, .int .i64 i] w fun e w' => e = .returned v ∧ w = w' := by
  obtain ⟨h1, h2⟩ := pickI_some hp
  have HP := Lib.hid (And.intro h1 h2)
  clear hp h2
  go_enter Tryz.func50, Tryz.ntmps50
  go_wp2_with fail
  refine (clamp_any i len _ hi (by omega)).mono ?_
  rintro e w' ⟨⟨j, rfl, hj0⟩, rfl⟩
  obtain rfl : j = k := by
    have := HP.out.2
    unfold ClampTo at hj0
    omega
  clear hj0 HP
  have kg : (0 : Int) ≤ k := by omega
  go_wp2_with fail
  go_ret
  exact ⟨rfl, rfl⟩
theorem index_miss (p : Option Addr) (c len : Nat) (i : Int) (w : World) (hl : (len : Int) ≤ 1048576) (hi : -9223372036854775808 ≤ i ∧ i ≤ 9223372036854775807) (hp : pickI len i = none) :
    Calls Tryz.prog 50 #[.slice p len c, .int .i64 i] w fun e w' => e = .returned .nilIface ∧ w = w' := by
  have HP := Lib.hid (pickI_none hp)
  clear hp
  go_enter Tryz.func50, Tryz.ntmps50
  go_wp2_with fail
  refine (clamp_any i len _ hi (by omega)).mono ?_
  rintro e w' ⟨⟨j, rfl, hj0⟩, rfl⟩
  have hj : j < 0 ∨ (len : Int) ≤ j := by
    have := HP.out
    unfold ClampTo at hj0
    omega
  clear hj0 HP
  rcases hj with hj | hj
  · go_wp2_with fail
    go_ret
    exact ⟨rfl, rfl⟩
  · by_cases h0 : 0 ≤ j
    · go_wp2_with fail
      go_ret
      exact ⟨rfl, rfl⟩
    · exfalso; omega
/-- What index answers. -/
def pickV (len : Nat) (i : Int) (vals : Nat → Value) : Value := match pickI len i with | some k => vals k | none => .nilIface
theorem index_arr (b o c len : Nat) (vals : Nat → Value) (i : Int) (w : World) (hl : (len : Int) ≤ 1048576) (hi : -9223372036854775808 ≤ i ∧ i ≤ 9223372036854775807) (hc : ∀ k, k < len → w.cell? ⟨b, o + k, none⟩ = some (vals k)) :
    Calls Tryz.prog 50 #[.slice (some ⟨b, o, none⟩) len c, .int .i64 i] w fun e w' => e = .returned (pickV len i vals) ∧ w = w' := by
  unfold pickV
  cases hp : pickI len i with
  | none => exact index_miss _ c len i w hl hi hp
  | some k => exact index_hit b o c len k _ i w hl hi hp (hc k (pickI_some hp).1)
/-- funcIndex2 on an array and an int. -/
theorem index2_int (u : Value) (b o c len : Nat) (vals : Nat → Value) (i : Int) (w : World) (hl : (len : Int) ≤ 1048576) (hi : -9223372036854775808 ≤ i ∧ i ≤ 9223372036854775807) (hc : ∀ k, k < len → w.cell? ⟨b, o + k, none⟩ = some (vals k)) :
    Calls Tryz.prog 34 #[u, .iface 61 (.slice (some ⟨b, o, none⟩) len c), .iface 3 (.int .i64 i)] w fun e w' => e = .returned (pickV len i vals) ∧ w = w' := by
  have H := Lib.hid (index_arr b o c len vals i w hl hi hc)
  clear hc
  generalize pickV len i vals = v at *
  go_enter Tryz.func34, Tryz.ntmps34
  go_wp2_with fail
  refine (toInt_int i _).mono ?_
  rintro e w' ⟨rfl, rfl⟩
  go_wp2_with fail
  refine H.out.mono ?_
  rintro e w' ⟨rfl, rfl⟩
  go_wp2_with fail
  go_ret
  exact ⟨rfl, rfl⟩
end Go.Proofs.YtfgepnbfideliaaGreatDoor
