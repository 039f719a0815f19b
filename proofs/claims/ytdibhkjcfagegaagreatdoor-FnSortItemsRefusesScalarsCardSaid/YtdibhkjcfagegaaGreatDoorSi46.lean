/- sortItems refuses what is no array, and lengths that differ: what each call answers. -/
import Derived.Test.YtdibhkjcfagegaaGreatDoorInts
namespace Go.Proofs.YtdibhkjcfagegaaGreatDoor
open Go.RowKit
set_option maxRecDepth 100000
set_option maxHeartbeats 2000000
@[go_sem] theorem err_ne (W : World) (u : TypeId) (v : Value) : (binOp .neq 55 (.iface u v) .nilIface).run Tryz.prog W = .ok (.bool true) W := by kernel_rfl
@[go_sem] theorem err_ne0 (W : World) : (binOp .neq 55 .nilIface .nilIface).run Tryz.prog W = .ok (.bool false) W := by kernel_rfl
def AnyBool (e : Ending) : Prop := ∃ b, e = .returned (.bool b)
theorem hasSuffix (s t : ByteArray) (w : World) (hs : (s.size : Int) ≤ 9223372036854775807) (ht : (t.size : Int) ≤ 9223372036854775807) : Calls Tryz.prog 54 #[.string s, .string t] w fun e w' => AnyBool e ∧ w = w' := by
  go_enter Tryz.func54, Tryz.ntmps54
  go_wp2
  all_goals
    go_ret
    exact ⟨⟨_, rfl⟩, rfl⟩
/-- An error came back: which types it may have. -/
def Refused (w : World) (e : Ending) (w' : World) : Prop :=
  (∃ t a, (t = 98 ∨ t = 95 ∨ t = 101) ∧ e = .returned (.tuple #[.slice none 0 0, .iface t (.pointer (some a))])) ∧ Below w.heap.size w w'
theorem refuse_vals (name : ByteArray) (n : Int) (u : TypeId) (x : Value) (w : World) (hs : (name.size : Int) ≤ 9223372036854775807) :
    Calls Tryz.prog 41 #[.string name, .iface 3 (.int .i64 n), .iface u x] w (Refused w) := by
  have H := Lib.hid (hasSuffix name ⟨#[95, 98, 121]⟩ w hs (by decide))
  go_enter Tryz.func41, Tryz.ntmps41
  go_wp2_with fail
  refine H.out.mono ?_
  rintro e w1 ⟨⟨b, rfl⟩, rfl⟩
  cases b
  all_goals
    go_wp2_with fail
    go_ret2
    exact ⟨⟨_, _, by decide, rfl⟩, (Below.refl _ _).alloc (Nat.le_refl _) _⟩
theorem refuse_keys (name : ByteArray) (n : Int) (p : Option Addr) (l c : Nat) (w : World) :
    Calls Tryz.prog 41 #[.string name, .iface 58 (.slice p l c), .iface 3 (.int .i64 n)] w (Refused w) := by
  go_enter Tryz.func41, Tryz.ntmps41
  go_wp2_with fail
  go_ret2
  exact ⟨⟨_, _, by decide, rfl⟩, (Below.refl _ _).alloc (Nat.le_refl _) _⟩
theorem refuse_lens (name : ByteArray) (p q : Option Addr) (l c m d : Nat) (w : World) (hlm : l ≠ m) :
    Calls Tryz.prog 41 #[.string name, .iface 58 (.slice p l c), .iface 58 (.slice q m d)] w (Refused w) := by
  have t0 : ((l : Int) != m) = true := by simp; omega
  clear hlm
  go_enter Tryz.func41, Tryz.ntmps41
  go_wp2_with fail
  go_ret2
  exact ⟨⟨_, _, by decide, rfl⟩, ((Below.refl _ _).alloc (Nat.le_refl _) _).alloc (by simp) _⟩
theorem scalars (name : ByteArray) (n : Int) (w : World) (hs : (name.size : Int) ≤ 9223372036854775807) :
    Calls Tryz.prog 17 #[.string name, .int .i64 n] w fun e w' => e = .returned (.tuple #[.bool true, .bool true]) ∧ Below w.heap.size w w' := by
  have hbs : ∀ w : World, (Instr.buildSlice 58 0 #[]).run Tryz.prog w = .ok (.slice (some ⟨w.heap.size, 0, none⟩) 0 0) (w.alloc (.cells #[] 20)) := fun _ => by kernel_rfl
  have HV := Lib.hid (fun x W => refuse_vals name n 58 x W hs)
  clear hs
  go_enter Tryz.func17, Tryz.ntmps17
  go_wp2_with fail
  refine (HV.out _ _).mono ?_
  rintro e w1 ⟨⟨t, a, _, rfl⟩, hb⟩
  have HB := Lib.hid (((Below.refl _ _).alloc (Nat.le_refl _) _).trans (hb.mono (by simp)))
  clear hb
  go_wp2_with fail
  refine (refuse_keys name n _ _ _ _).mono ?_
  rintro e w2 ⟨⟨t2, a2, _, rfl⟩, hb2⟩
  have HB2 := Lib.hid ((HB.out.alloc HB.out.size _).trans (hb2.mono (by have := HB.out.size; simp; omega)))
  clear hb2
  go_wp2_with fail
  go_quiet (fail)
  go_wp2_with fail
  go_ret2
  exact ⟨rfl, below_drewN HB2.out _⟩
theorem bytesSI (name : ByteArray) (n : Int) (w : World) (hs : (name.size : Int) ≤ 9223372036854775807) :
    Calls Tryz.prog 16 #[.string name, .int .i64 n] w fun e w' => AnyBool e ∧ w = w' := by
  go_enter Tryz.func16, Tryz.ntmps16
  go_wp2
  all_goals
    go_ret
    exact ⟨⟨_, rfl⟩, rfl⟩
theorem law_SI (w : World) (name : ByteArray) (hs : (name.size : Int) ≤ 9223372036854775807) (n : Int) (_ : -9223372036854775808 ≤ n ∧ n ≤ 9223372036854775807) :
    Calls Tryz.prog 4 #[.string name, .int .i64 n] w fun e w' => e = .returned (.bool true) ∧ Below w.heap.size w w' := by
  go_enter Tryz.func4, Tryz.ntmps4
  go_wp2_with fail
  refine (bytesSI name n _ hs).mono ?_
  rintro e w1 ⟨⟨b, rfl⟩, rfl⟩
  cases b with
  | false =>
    go_wp2_with fail
    go_ret
    exact ⟨rfl, Below.refl _ _⟩
  | true =>
    by_cases h : (name.size : Int) ≤ 65536
    · go_wp2_with fail
      refine (scalars name n _ hs).mono ?_
      rintro e w2 ⟨rfl, hb⟩
      have HB := Lib.hid hb
      clear hb
      go_wp2_with fail
      go_ret
      exact ⟨rfl, HB.out⟩
    · by_cases h2 : (name.size : Int) ≤ 1048576
      · go_wp2_with fail
        go_ret
        exact ⟨rfl, Below.refl _ _⟩
      · go_wp2_with fail
        go_ret
        exact ⟨rfl, Below.refl _ _⟩
end Go.Proofs.YtdibhkjcfagegaaGreatDoor
