/- sortItems refuses what is no array, and lengths that differ: what each call answers. -/
import Derived.Test.YtlhgfijpagfhpaaGreatDoorInts
namespace Go.Proofs.YtlhgfijpagfhpaaGreatDoor
open Go.RowKit
set_option maxRecDepth 100000
set_option maxHeartbeats 2000000
@[go_sem] theorem err_ne (W : World) (u : TypeId) (v : Value) : (binOp .neq 41 (.iface u v) .nilIface).run Tryz.prog W = .ok (.bool true) W := by kernel_rfl
@[go_sem] theorem err_ne0 (W : World) : (binOp .neq 41 .nilIface .nilIface).run Tryz.prog W = .ok (.bool false) W := by kernel_rfl
def AnyBool (e : Ending) : Prop := ∃ b, e = .returned (.bool b)
theorem hasSuffix (s t : ByteArray) (w : World) (hs : (s.size : Int) ≤ 9223372036854775807) (ht : (t.size : Int) ≤ 9223372036854775807) : Calls Tryz.prog 28 #[.string s, .string t] w fun e w' => AnyBool e ∧ w = w' := by
  go_enter Tryz.func28, Tryz.ntmps28
  go_wp2
  all_goals
    go_ret
    exact ⟨⟨_, rfl⟩, rfl⟩
/-- An error came back: which types it may have. -/
def Refused (w : World) (e : Ending) (w' : World) : Prop :=
  (∃ t a, (t = 55 ∨ t = 52 ∨ t = 58) ∧ e = .returned (.tuple #[.slice none 0 0, .iface t (.pointer (some a))])) ∧ Below w.heap.size w w'
theorem refuse_vals (name : ByteArray) (n : Int) (u : TypeId) (x : Value) (w : World) (hs : (name.size : Int) ≤ 9223372036854775807) :
    Calls Tryz.prog 27 #[.string name, .iface 3 (.int .i64 n), .iface u x] w (Refused w) := by
  have H := Lib.hid (hasSuffix name ⟨#[95, 98, 121]⟩ w hs (by decide))
  go_enter Tryz.func27, Tryz.ntmps27
  go_wp2_with fail
  refine H.out.mono ?_
  rintro e w1 ⟨⟨b, rfl⟩, rfl⟩
  cases b
  all_goals
    go_wp2_with fail
    go_ret2
    exact ⟨⟨_, _, by decide, rfl⟩, (Below.refl _ _).alloc (Nat.le_refl _) _⟩
theorem refuse_keys (name : ByteArray) (n : Int) (p : Option Addr) (l c : Nat) (w : World) :
    Calls Tryz.prog 27 #[.string name, .iface 35 (.slice p l c), .iface 3 (.int .i64 n)] w (Refused w) := by
  go_enter Tryz.func27, Tryz.ntmps27
  go_wp2_with fail
  go_ret2
  exact ⟨⟨_, _, by decide, rfl⟩, (Below.refl _ _).alloc (Nat.le_refl _) _⟩
theorem refuse_lens (name : ByteArray) (p q : Option Addr) (l c m d : Nat) (w : World) (hlm : l ≠ m) :
    Calls Tryz.prog 27 #[.string name, .iface 35 (.slice p l c), .iface 35 (.slice q m d)] w (Refused w) := by
  have t0 : ((l : Int) != m) = true := by simp; omega
  clear hlm
  go_enter Tryz.func27, Tryz.ntmps27
  go_wp2_with fail
  go_ret2
  exact ⟨⟨_, _, by decide, rfl⟩, ((Below.refl _ _).alloc (Nat.le_refl _) _).alloc (by simp) _⟩
end Go.Proofs.YtlhgfijpagfhpaaGreatDoor
