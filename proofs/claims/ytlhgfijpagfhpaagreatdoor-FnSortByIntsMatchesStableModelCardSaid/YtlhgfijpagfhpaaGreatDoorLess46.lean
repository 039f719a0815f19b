/- Compare on two ints, and the closure of sortItems: less of two items whose keys are ints. -/
import Derived.Test.YtlhgfijpagfhpaaGreatDoorInts
import Derived.Test.YtlhgfijpagfhpaaGreatDoorSortB
namespace Go.Proofs.YtlhgfijpagfhpaaGreatDoor
open Go.Shelf Go.RowKit Go.Lib Go.Sort
set_option maxRecDepth 100000
set_option maxHeartbeats 4000000
def cmpI (a b : Int) : Int := if a < b then -1 else if b < a then 1 else 0
theorem cmpInt (a b : Int) (w : World) :
    Calls Tryz.prog 38 #[.int .i64 a, .int .i64 b] w fun e w' => e = .returned (.int .i64 (cmpI a b)) ∧ w = w' := by
  go_enter Tryz.func38, Tryz.ntmps38
  go_wp2
  all_goals
    go_ret
    unfold cmpI
    refine ⟨?_, rfl⟩
    first | (rw [if_pos (by assumption)]; rfl) | (rw [if_neg (by omega), if_pos (by assumption)]; rfl) | (rw [if_neg (by omega), if_neg (by omega)]; rfl)
theorem btsInt (a b : Int) (w : World) :
    Calls Tryz.prog 37 #[.iface 3 (.int .i64 a), .iface 3 (.int .i64 b), .func (.func 38) #[] #[], .func (.func 39) #[] #[], .func (.func 41) #[] #[], .func (.func 42) #[] #[], .func (.func 43) #[] #[], .func (.func 44) #[] #[], .func (.func 46) #[] #[]] w fun e w' => e = .returned (.int .i64 (cmpI a b)) ∧ w = w' := by
  go_enter Tryz.func37, Tryz.ntmps37
  go_wp2_with fail
  refine (cmpInt _ _ _).mono ?_
  rintro e w' ⟨rfl, rfl⟩
  go_wp2_with fail
  go_ret
  exact ⟨rfl, rfl⟩
theorem compareInt (a b : Int) (w : World) :
    Calls Tryz.prog 31 #[.iface 3 (.int .i64 a), .iface 3 (.int .i64 b)] w fun e w' => e = .returned (.int .i64 (cmpI a b)) ∧ w = w' := by
  go_enter Tryz.func31, Tryz.ntmps31
  go_wp2_with fail
  refine (btsInt _ _ _).mono ?_
  rintro e w' ⟨rfl, rfl⟩
  go_wp2_with fail
  go_ret
  exact ⟨rfl, rfl⟩
theorem cmpI_lt (a b : Int) : decide (cmpI a b < 0) = decide (a < b) := by
  unfold cmpI
  by_cases h : a < b
  · rw [if_pos h]; simp [h]
  · rw [if_neg h]
    by_cases h2 : b < a
    · rw [if_pos h2]; simp [h]
    · rw [if_neg h2]; simp [h]
/-- items[i].key < items[j].key. -/
theorem lessItems (cb rb c n : Nat) (i j pi pj : Nat) (ki kj : Int) (W : World) (hn : n < 4611686018427387904) (hi : i < n) (hj : j < n)
    (hs : W.cell? ⟨cb, 0, none⟩ = some (.slice (some ⟨rb, 0, none⟩) n c)) (h1 : W.cell? ⟨rb, i, none⟩ = some (.pointer (some ⟨pi, 0, none⟩))) (h2 : W.cell? ⟨rb, j, none⟩ = some (.pointer (some ⟨pj, 0, none⟩)))
    (k1 : W.cell? ⟨pi, 1, none⟩ = some (.iface 3 (.int .i64 ki))) (k2 : W.cell? ⟨pj, 1, none⟩ = some (.iface 3 (.int .i64 kj))) :
    Calls Tryz.prog 30 #[.int .i64 i, .int .i64 j, .pointer (some ⟨cb, 0, none⟩)] W fun e w' => e = .returned (.bool (decide (ki < kj))) ∧ ∃ q, w' = W.drewN q := by
  go_enter Tryz.func30, Tryz.ntmps30
  go_wp2
  go_quiet (refine Calls.quiet_of_same ((compareInt ki kj _).mono fun _ _ ⟨x1, x2⟩ => ⟨x1, x2.symm⟩))
  go_wp2
  go_ret
  exact ⟨by rw [cmpI_lt]; rfl, nq, rfl⟩
end Go.Proofs.YtlhgfijpagfhpaaGreatDoor
