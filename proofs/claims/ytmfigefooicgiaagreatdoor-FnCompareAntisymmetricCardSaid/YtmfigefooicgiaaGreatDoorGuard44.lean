/- The guards of this seat's laws: zzBytes_.., zzb1TooBig. -/
import Derived.Test.YtmfigefooicgiaaGreatDoorTa
namespace Go.Proofs.YtmfigefooicgiaaGreatDoor
open Go.RowKit
set_option maxRecDepth 100000
set_option maxHeartbeats 1000000
theorem bytes_yes_TypeIndexOrdersCompare (a1 : Int) (a2 : Bool) (a3 : Int) (a4 : Nat) (s : ByteArray) (p : Option Addr) (l c : Nat) (b1 : Int) (b2 : Bool) (b3 : Int) (b4 : Nat) (t : ByteArray) (q : Option Addr) (m d : Nat) (w : World) (h : (s.size : Int) + l + t.size + m ≤ 1048576) :
    Calls Tryz.prog 6 #[.int .i64 a1, .bool a2, .int .i64 a3, .float .f64 a4, .string s, .slice p l c, .int .i64 b1, .bool b2, .int .i64 b3, .float .f64 b4, .string t, .slice q m d] w fun e w' => e = .returned (.bool true) ∧ w = w' := by
  go_enter Tryz.func6, Tryz.ntmps6
  go_wp2
  go_ret
  exact ⟨rfl, rfl⟩
theorem bytes_no_TypeIndexOrdersCompare (a1 : Int) (a2 : Bool) (a3 : Int) (a4 : Nat) (s : ByteArray) (p : Option Addr) (l c : Nat) (b1 : Int) (b2 : Bool) (b3 : Int) (b4 : Nat) (t : ByteArray) (q : Option Addr) (m d : Nat) (w : World) (h : ¬ (s.size : Int) + l + t.size + m ≤ 1048576) (hs : (s.size : Int) ≤ 9223372036854775807) (hl : (l : Int) ≤ 9223372036854775807) (ht : (t.size : Int) ≤ 9223372036854775807) (hm : (m : Int) ≤ 9223372036854775807) :
    Calls Tryz.prog 6 #[.int .i64 a1, .bool a2, .int .i64 a3, .float .f64 a4, .string s, .slice p l c, .int .i64 b1, .bool b2, .int .i64 b3, .float .f64 b4, .string t, .slice q m d] w fun e w' => e = .returned (.bool false) ∧ w = w' := by
  go_enter Tryz.func6, Tryz.ntmps6
  go_wp2
  all_goals
    go_ret
    exact ⟨rfl, rfl⟩
theorem bytes_yes_CompareAntisymmetric (a1 : Int) (a2 : Bool) (a3 : Int) (a4 : Nat) (s : ByteArray) (p : Option Addr) (l c : Nat) (b1 : Int) (b2 : Bool) (b3 : Int) (b4 : Nat) (t : ByteArray) (q : Option Addr) (m d : Nat) (w : World) (h : (s.size : Int) + l + t.size + m ≤ 1048576) :
    Calls Tryz.prog 12 #[.int .i64 a1, .bool a2, .int .i64 a3, .float .f64 a4, .string s, .slice p l c, .int .i64 b1, .bool b2, .int .i64 b3, .float .f64 b4, .string t, .slice q m d] w fun e w' => e = .returned (.bool true) ∧ w = w' := by
  go_enter Tryz.func12, Tryz.ntmps12
  go_wp2
  go_ret
  exact ⟨rfl, rfl⟩
theorem bytes_no_CompareAntisymmetric (a1 : Int) (a2 : Bool) (a3 : Int) (a4 : Nat) (s : ByteArray) (p : Option Addr) (l c : Nat) (b1 : Int) (b2 : Bool) (b3 : Int) (b4 : Nat) (t : ByteArray) (q : Option Addr) (m d : Nat) (w : World) (h : ¬ (s.size : Int) + l + t.size + m ≤ 1048576) (hs : (s.size : Int) ≤ 9223372036854775807) (hl : (l : Int) ≤ 9223372036854775807) (ht : (t.size : Int) ≤ 9223372036854775807) (hm : (m : Int) ≤ 9223372036854775807) :
    Calls Tryz.prog 12 #[.int .i64 a1, .bool a2, .int .i64 a3, .float .f64 a4, .string s, .slice p l c, .int .i64 b1, .bool b2, .int .i64 b3, .float .f64 b4, .string t, .slice q m d] w fun e w' => e = .returned (.bool false) ∧ w = w' := by
  go_enter Tryz.func12, Tryz.ntmps12
  go_wp2
  all_goals
    go_ret
    exact ⟨rfl, rfl⟩
theorem bytes_yes_CompareMatchesModel (a1 : Int) (a2 : Bool) (a3 : Int) (a4 : Nat) (s : ByteArray) (p : Option Addr) (l c : Nat) (b1 : Int) (b2 : Bool) (b3 : Int) (b4 : Nat) (t : ByteArray) (q : Option Addr) (m d : Nat) (w : World) (h : (s.size : Int) + l + t.size + m ≤ 1048576) :
    Calls Tryz.prog 14 #[.int .i64 a1, .bool a2, .int .i64 a3, .float .f64 a4, .string s, .slice p l c, .int .i64 b1, .bool b2, .int .i64 b3, .float .f64 b4, .string t, .slice q m d] w fun e w' => e = .returned (.bool true) ∧ w = w' := by
  go_enter Tryz.func14, Tryz.ntmps14
  go_wp2
  go_ret
  exact ⟨rfl, rfl⟩
theorem bytes_no_CompareMatchesModel (a1 : Int) (a2 : Bool) (a3 : Int) (a4 : Nat) (s : ByteArray) (p : Option Addr) (l c : Nat) (b1 : Int) (b2 : Bool) (b3 : Int) (b4 : Nat) (t : ByteArray) (q : Option Addr) (m d : Nat) (w : World) (h : ¬ (s.size : Int) + l + t.size + m ≤ 1048576) (hs : (s.size : Int) ≤ 9223372036854775807) (hl : (l : Int) ≤ 9223372036854775807) (ht : (t.size : Int) ≤ 9223372036854775807) (hm : (m : Int) ≤ 9223372036854775807) :
    Calls Tryz.prog 14 #[.int .i64 a1, .bool a2, .int .i64 a3, .float .f64 a4, .string s, .slice p l c, .int .i64 b1, .bool b2, .int .i64 b3, .float .f64 b4, .string t, .slice q m d] w fun e w' => e = .returned (.bool false) ∧ w = w' := by
  go_enter Tryz.func14, Tryz.ntmps14
  go_wp2
  all_goals
    go_ret
    exact ⟨rfl, rfl⟩
def AnyBool (e : Ending) : Prop := ∃ b, e = .returned (.bool b)
theorem tooBig (s : ByteArray) (p : Option Addr) (l c : Nat) (t : ByteArray) (q : Option Addr) (m d : Nat) (w : World) (h : (s.size : Int) + l + t.size + m ≤ 1048576) :
    Calls Tryz.prog 7 #[.string s, .slice p l c, .string t, .slice q m d] w fun e w' => AnyBool e ∧ w = w' := by
  go_enter Tryz.func7, Tryz.ntmps7
  go_wp2
  all_goals
    go_ret
    exact ⟨⟨_, rfl⟩, rfl⟩
end Go.Proofs.YtmfigefooicgiaaGreatDoor
