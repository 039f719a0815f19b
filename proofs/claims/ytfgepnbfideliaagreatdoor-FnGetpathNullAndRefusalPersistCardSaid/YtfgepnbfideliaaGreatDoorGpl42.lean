/- getpath on an array of arrays of ints, in plain words. -/
import Derived.Test.YtfgepnbfideliaaGreatDoorIdx
namespace Go.Proofs.YtfgepnbfideliaaGreatDoor
inductive G where
  | null | mat | row (r : Nat) | int (n : Int) | err
def stepG (m : List (List Int)) : G → Bool × Int → G
  | .null, _ => .null
  | .mat, (k, i) => if k then .err else match pickI m.length i with | some r => .row r | none => .null
  | .row r, (k, i) => if k then .err else match pickI (m.getD r []).length i with | some j => .int ((m.getD r []).getD j 0) | none => .null
  | .int _, _ => .err
  | .err, _ => .err
def pathG (m : List (List Int)) (p : List (Bool × Int)) : G := p.foldl (stepG m) .mat
def G.kind : G → Int
  | .null => 0
  | .int _ => 1
  | .err => 2
  | _ => 3
def G.num : G → Int
  | .int n => n
  | _ => 0
theorem fold_null (m : List (List Int)) : ∀ q : List (Bool × Int), q.foldl (stepG m) G.null = G.null
  | [] => rfl
  | s :: q => by rw [List.foldl_cons]; exact fold_null m q
theorem fold_err (m : List (List Int)) : ∀ q : List (Bool × Int), q.foldl (stepG m) G.err = G.err
  | [] => rfl
  | s :: q => by rw [List.foldl_cons]; exact fold_err m q
theorem path_app (m : List (List Int)) (p q : List (Bool × Int)) : pathG m (p ++ q) = q.foldl (stepG m) (pathG m p) := List.foldl_append
/-- What the longer path gives. -/
theorem path_null (m : List (List Int)) (p q : List (Bool × Int)) (h : (pathG m p).kind = 0) : (pathG m (p ++ q)).kind = 0 := by
  rw [path_app]
  cases hg : pathG m p <;> rw [hg] at h
  case null => rw [fold_null]; rfl
  all_goals simp [G.kind] at h
theorem path_end (m : List (List Int)) (p q : List (Bool × Int)) (hq : q ≠ []) (h : (pathG m p).kind = 1 ∨ (pathG m p).kind = 2) : (pathG m (p ++ q)).kind = 2 := by
  rw [path_app]
  cases hg : pathG m p <;> rw [hg] at h
  case int n =>
    cases q with
    | nil => exact absurd rfl hq
    | cons s q => rw [List.foldl_cons]; show (q.foldl (stepG m) .err).kind = 2; rw [fold_err]; rfl
  case err => rw [fold_err]; rfl
  all_goals simp [G.kind] at h
theorem path_snoc (m : List (List Int)) (p : List (Bool × Int)) (k : Nat) (h : k < p.length) : pathG m (p.take (k + 1)) = stepG m (pathG m (p.take k)) p[k] := by
  rw [List.take_succ_eq_append_getElem h, path_app]; rfl
/-- Once refused, always refused. -/
theorem path_err_on (m : List (List Int)) (p : List (Bool × Int)) (k : Nat) (h : pathG m (p.take k) = .err) : pathG m p = .err := by
  conv => lhs; rw [← List.take_append_drop k p]
  rw [path_app, h, fold_err]
end Go.Proofs.YtfgepnbfideliaaGreatDoor
