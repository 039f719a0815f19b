/- Compare on scalar jq values and on values of different kinds: what each call answers. -/
import Derived.Test.YtmfigefooicgiaaGreatDoorTa
namespace Go.Proofs.YtmfigefooicgiaaGreatDoor
open Go.RowKit
set_option maxRecDepth 100000
set_option maxHeartbeats 400000
def cmpI (a b : Int) : Int := if a < b then -1 else if b < a then 1 else 0
def cmpF (a b : Nat) : Int := if (FloatKind.f64.format.order a b == some Ordering.lt) || (FloatKind.f64.format.order a a != some Ordering.eq) then -1 else if FloatKind.f64.format.order a b == some Ordering.eq then 0 else 1
def cmpS (a b : ByteArray) : Int := if Op.bytesLess a.toList b.toList then -1 else if a.toList == b.toList then 0 else 1
/-- A jq value as Go holds it. -/
inductive K where
  | null | bool (b : Bool) | int (n : Int) | flo (f : Nat) | str (s : ByteArray) | arr (a : Option Addr) (len cap : Nat) | obj (r : Option Nat)
def K.val : K → Value
  | .null => .nilIface
  | .bool b => .iface 4 (.bool b)
  | .int n => .iface 3 (.int .i64 n)
  | .flo f => .iface 22 (.float .f64 f)
  | .str s => .iface 9 (.string s)
  | .arr a l c => .iface 46 (.slice a l c)
  | .obj r => .iface 47 (.map r)
def K.idx : K → Int
  | .null => 0
  | .bool b => if b then 2 else 1
  | .int _ => 3
  | .flo _ => 3
  | .str _ => 4
  | .arr _ _ _ => 5
  | .obj _ => 6
/-- What Compare answers where no array and no object meets its like. -/
def K.cmp : K → K → Option Int
  | .int a, .int b => some (cmpI a b)
  | .int a, .flo b => some (cmpF (floatOfInt .f64 a) b)
  | .flo a, .int b => some (cmpF a (floatOfInt .f64 b))
  | .flo a, .flo b => some (cmpF a b)
  | .str a, .str b => some (cmpS a b)
  | .arr _ _ _, .arr _ _ _ => none
  | .obj _, .obj _ => none
  | x, y => some (cmpI x.idx y.idx)
theorem typeIndex (x : K) (w : World) :
    Calls Tryz.prog 17 #[x.val] w fun e w' => e = .returned (.int .i64 x.idx) ∧ w = w' := by
  rcases x with _ | (_|_) | _ | _ | _ | _ | _
  all_goals
    unfold K.val K.idx
    go_enter Tryz.func17, Tryz.ntmps17
    go_wp2
    go_ret
    exact ⟨rfl, rfl⟩
theorem cmpInt (a b : Int) (w : World) :
    Calls Tryz.prog 27 #[.int .i64 a, .int .i64 b] w fun e w' => e = .returned (.int .i64 (cmpI a b)) ∧ w = w' := by
  go_enter Tryz.func27, Tryz.ntmps27
  go_wp2
  all_goals
    go_ret
    unfold cmpI
    refine ⟨?_, rfl⟩
    first | (rw [if_pos (by assumption)]; rfl) | (rw [if_neg (by omega), if_pos (by assumption)]; rfl) | (rw [if_neg (by omega), if_neg (by omega)]; rfl)
theorem fallback (x y : K) (w : World) :
    Calls Tryz.prog 35 #[x.val, y.val] w fun e w' => e = .returned (.int .i64 (cmpI x.idx y.idx)) ∧ w = w' := by
  go_enter Tryz.func35, Tryz.ntmps35
  go_wp2_with fail
  refine (typeIndex _ _).mono ?_
  rintro e w' ⟨rfl, rfl⟩
  go_wp2_with fail
  refine (typeIndex _ _).mono ?_
  rintro e w' ⟨rfl, rfl⟩
  go_wp2_with fail
  refine (cmpInt _ _ _).mono ?_
  rintro e w' ⟨rfl, rfl⟩
  go_wp2_with fail
  go_ret
  exact ⟨rfl, rfl⟩
theorem cmpFlo (a b : Nat) (w : World) :
    Calls Tryz.prog 28 #[.float .f64 a, .float .f64 b] w fun e w' => e = .returned (.int .i64 (cmpF a b)) ∧ w = w' := by
  unfold cmpF
  rcases h1 : (FloatKind.f64.format.order a b == some Ordering.lt) with _ | _ <;>
  rcases h2 : (FloatKind.f64.format.order a a != some Ordering.eq) with _ | _ <;>
  rcases h3 : (FloatKind.f64.format.order a b == some Ordering.eq) with _ | _
  all_goals
    go_enter Tryz.func28, Tryz.ntmps28
    go_wp2
    all_goals
      go_ret
      exact ⟨rfl, rfl⟩
theorem cmpStr (a b : ByteArray) (w : World) :
    Calls Tryz.prog 31 #[.string a, .string b] w fun e w' => e = .returned (.int .i64 (cmpS a b)) ∧ w = w' := by
  unfold cmpS
  rcases h1 : (Op.bytesLess a.toList b.toList) with _ | _ <;>
  rcases h2 : (a.toList == b.toList) with _ | _
  all_goals
    go_enter Tryz.func31, Tryz.ntmps31
    go_wp2
    all_goals
      go_ret
      exact ⟨rfl, rfl⟩
set_option maxHeartbeats 16000000 in
/-- binopTypeSwitch with Compare's callbacks. -/
theorem bts (x y : K) (c : Int) (hc : x.cmp y = some c) (w : World) :
    Calls Tryz.prog 26 #[x.val, y.val, .func (.func 27) #[] #[], .func (.func 28) #[] #[], .func (.func 30) #[] #[], .func (.func 31) #[] #[], .func (.func 32) #[] #[], .func (.func 33) #[] #[], .func (.func 35) #[] #[]] w fun e w' => e = .returned (.int .i64 c) ∧ w = w' := by
  have HF := Lib.hid (fallback x y)
  cases x <;> cases y <;> cases hc
  all_goals
    simp only [K.val]
    go_enter Tryz.func26, Tryz.ntmps26
    go_wp2_with fail
    first | (refine (cmpInt _ _ _).mono ?_; rintro e w' ⟨rfl, rfl⟩) | (refine (cmpFlo _ _ _).mono ?_; rintro e w' ⟨rfl, rfl⟩) | (refine (cmpStr _ _ _).mono ?_; rintro e w' ⟨rfl, rfl⟩) | (refine (HF.out _).mono ?_; rintro e w' ⟨rfl, rfl⟩)
    go_wp2_with fail
    go_ret
    exact ⟨rfl, rfl⟩
theorem compare (x y : K) (c : Int) (hc : x.cmp y = some c) (w : World) :
    Calls Tryz.prog 19 #[x.val, y.val] w fun e w' => e = .returned (.int .i64 c) ∧ w = w' := by
  go_enter Tryz.func19, Tryz.ntmps19
  go_wp2_with fail
  refine (bts x y c hc _).mono ?_
  rintro e w' ⟨rfl, rfl⟩
  go_wp2_with fail
  go_ret
  exact ⟨rfl, rfl⟩
end Go.Proofs.YtmfigefooicgiaaGreatDoor
