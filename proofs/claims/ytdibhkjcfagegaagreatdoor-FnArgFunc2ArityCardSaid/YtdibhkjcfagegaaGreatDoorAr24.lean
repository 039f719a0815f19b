/- The walk of FnArgFunc2Arity: it returns true. -/
import Derived.Test.YtdibhkjcfagegaaGreatDoorTa
namespace Go.Proofs.YtdibhkjcfagegaaGreatDoor
open Go.RowKit
set_option maxRecDepth 100000
set_option maxHeartbeats 2000000
theorem arity_all : ((List.range 65).all fun j => (bits BinOp.and IntKind.i64 4 (wrap64 (2 ^ j)) != 0) == decide (j = 2)) = true := by kernel_rfl
theorem arity (n : Nat) : (bits BinOp.and IntKind.i64 4 (wrap64 (2 ^ min n 64)) != 0) = decide (n = 2) := by
  have h := List.all_eq_true.1 arity_all (min n 64) (List.mem_range.2 (by omega))
  rw [eq_of_beq h]
  by_cases e : n = 2
  · subst e; rfl
  · rw [decide_eq_false e, decide_eq_false (by omega)]
/-- The function that argFunc2 makes over funcIndex2, as Go holds it. -/
theorem accept (n : Nat) (cap : Array Value) (fn : Fn) (w : World) (_hn : (n : Int) ≤ 9223372036854775807) :
    Calls Tryz.prog 40 #[.agg #[.int .i64 4, .bool false, .func fn #[] cap], .int .i64 n] w fun e w' => e = .returned (.bool (decide (n = 2))) ∧ Below w.heap.size w w' := by
  rw [← arity]
  go_enter Tryz.func40, Tryz.ntmps40
  go_wp2_with fail
  go_quiet (fail)
  go_wp2_with fail
  go_ret
  exact ⟨rfl, below_drewN ((Below.refl _ _).alloc (Nat.le_refl _) _) _⟩
theorem zzAccept (n : Nat) (cap : Array Value) (fn : Fn) (w : World) (hn : (n : Int) ≤ 9223372036854775807) :
    Calls Tryz.prog 14 #[.agg #[.int .i64 4, .bool false, .func fn #[] cap], .int .i64 n] w fun e w' => e = .returned (.bool (decide (n = 2))) ∧ Below w.heap.size w w' := by
  go_enter Tryz.func14, Tryz.ntmps14
  go_wp2_with fail
  refine (accept n cap fn _ hn).mono ?_
  rintro e w1 ⟨rfl, hb⟩
  have HB := Lib.hid hb
  clear hb
  go_wp2_with fail
  go_ret
  exact ⟨rfl, ((Below.refl _ _).alloc (Nat.le_refl _) _).trans (HB.out.mono (by simp))⟩
theorem zzIter (cap : Array Value) (fn : Fn) (w : World) :
    Calls Tryz.prog 15 #[.agg #[.int .i64 4, .bool false, .func fn #[] cap]] w fun e w' => e = .returned (.bool false) ∧ Below w.heap.size w w' := by
  go_enter Tryz.func15, Tryz.ntmps15
  go_wp2_with fail
  go_ret
  exact ⟨rfl, (Below.refl _ _).alloc (Nat.le_refl _) _⟩
theorem argFunc2 (f : FuncId) (w : World) :
    Calls Tryz.prog 38 #[.func (.func f) #[] #[]] w fun e w' => e = .returned (.agg #[.int .i64 4, .bool false, .func (.func 48) #[] #[.pointer (some ⟨w.heap.size, 0, none⟩)]]) ∧ w' = (w.alloc (.cells #[.func (.func f) #[] #[]] 52)).alloc (.cells #[.int .i64 4, .bool false, .func (.func 48) #[] #[.pointer (some ⟨w.heap.size, 0, none⟩)]] 24) := by
  go_enter Tryz.func38, Tryz.ntmps38
  go_wp2_with fail
  exact bodyPost_ret (v := (.agg #[.int .i64 4, .bool false, .func (.func 48) #[] #[.pointer (some ⟨w.heap.size, 0, none⟩)]])) (by simp [results, Tryz.results38, go_sem]) rfl ⟨rfl, rfl⟩
theorem zzArgFunc2 (w : World) :
    Calls Tryz.prog 13 #[] w fun e w' => e = .returned (.agg #[.int .i64 4, .bool false, .func (.func 48) #[] #[.pointer (some ⟨(w.heap.size + 1), 0, none⟩)]]) ∧ w' = ((w.alloc (.cells #[.int .i64 4, .bool false, .func (.func 48) #[] #[.pointer (some ⟨(w.heap.size + 1), 0, none⟩)]] 24)).alloc (.cells #[.func (.func 39) #[] #[]] 52)).alloc (.cells #[.int .i64 4, .bool false, .func (.func 48) #[] #[.pointer (some ⟨(w.heap.size + 1), 0, none⟩)]] 24) := by
  go_enter Tryz.func13, Tryz.ntmps13
  go_wp2_with fail
  refine (argFunc2 _ _).mono ?_
  rintro e w1 ⟨rfl, rfl⟩
  go_wp2_with fail
  exact bodyPost_ret (v := (.agg #[.int .i64 4, .bool false, .func (.func 48) #[] #[.pointer (some ⟨(w.heap.size + 1), 0, none⟩)]])) (by simp [results, Tryz.results13, go_sem]) rfl ⟨rfl, rfl⟩
theorem lawAR (n : Nat) (w : World) (hn : (n : Int) ≤ 9223372036854775807) :
    Calls Tryz.prog 3 #[.int .i64 n] w fun e w' => e = .returned (.bool true) ∧ Below w.heap.size w w' := by
  go_enter Tryz.func3, Tryz.ntmps3
  go_wp2_with fail
  refine (zzArgFunc2 _).mono ?_
  rintro e w1 ⟨rfl, rfl⟩
  go_wp2_with fail
  obtain ⟨W3, hW3⟩ : ∃ W3, W3 = ((w.alloc (.cells #[.int .i64 4, .bool false, .func (.func 48) #[] #[.pointer (some ⟨w.heap.size + 1, 0, none⟩)]] 24)).alloc (.cells #[.func (.func 39) #[] #[]] 52)).alloc (.cells #[.int .i64 4, .bool false, .func (.func 48) #[] #[.pointer (some ⟨w.heap.size + 1, 0, none⟩)]] 24) := ⟨_, rfl⟩
  have hz : w.heap.size + 1 + 1 + 1 = W3.heap.size := by rw [hW3]; simp
  have HB3 := Lib.hid (show Below w.heap.size w W3 by rw [hW3]; exact ((((Below.refl w.heap.size w).alloc (Nat.le_refl _) _).alloc (by simp) _).alloc (by simp; omega) _))
  rw [← hW3, hz]
  clear hW3 hz
  obtain ⟨b, hb⟩ : ∃ b, b = w.heap.size + 1 := ⟨_, rfl⟩
  rw [← hb]
  clear hb
  refine (zzAccept n _ _ _ hn).mono ?_
  rintro e w2 ⟨rfl, hb⟩
  have c0 : w2.cell? ⟨W3.heap.size, 0, none⟩ = some (.int .i64 4) := by rw [hb.cell (p := ⟨W3.heap.size, 0, none⟩) (by simp)]; simp
  have c1 : w2.cell? ⟨W3.heap.size, 1, none⟩ = some (.bool false) := by rw [hb.cell (p := ⟨W3.heap.size, 1, none⟩) (by simp)]; simp
  have c2 : w2.cell? ⟨W3.heap.size, 2, none⟩ = some (.func (.func 48) #[] #[.pointer (some ⟨b, 0, none⟩)]) := by rw [hb.cell (p := ⟨W3.heap.size, 2, none⟩) (by simp)]; simp
  have HB := Lib.hid ((HB3.out.alloc HB3.out.size _).trans (hb.mono (by have := HB3.out.size; simp; omega)))
  clear hb HB3
  have t0 : (decide (n = 2) == ((n : Int) == 2)) = true := by
    by_cases e : n = 2
    · subst e; rfl
    · have : ((n : Int) == 2) = false := by simp; omega
      rw [this, decide_eq_false e]; rfl
  go_wp2_with fail
  refine (zzIter _ _ _).mono ?_
  rintro e w3 ⟨rfl, hb3⟩
  have HB4 := Lib.hid (HB.out.trans (hb3.mono HB.out.size))
  clear hb3
  go_wp2_with fail
  go_ret
  exact ⟨rfl, HB4.out⟩
theorem lawAR_neg (n : Int) (w : World) (hn : n < 0) :
    Calls Tryz.prog 3 #[.int .i64 n] w fun e w' => e = .returned (.bool true) ∧ Below w.heap.size w w' := by
  go_enter Tryz.func3, Tryz.ntmps3
  go_wp2_with fail
  go_ret
  exact ⟨rfl, Below.refl _ _⟩
theorem law_AR (w : World) (n : Int) (hn : -9223372036854775808 ≤ n ∧ n ≤ 9223372036854775807) :
    Calls Tryz.prog 3 #[.int .i64 n] w fun e w' => e = .returned (.bool true) ∧ Below w.heap.size w w' := by
  by_cases h : n < 0
  · exact lawAR_neg n w h
  · obtain ⟨m, rfl⟩ : ∃ m : Nat, n = m := ⟨n.toNat, by omega⟩
    exact lawAR m w hn.2
end Go.Proofs.YtdibhkjcfagegaaGreatDoor
