/- The function that argFunc2 makes over funcIndex2. -/
import Derived.Test.YtlhgfijpagfhpabGreatDoorTa
namespace Go.Proofs.YtlhgfijpagfhpabGreatDoor
open Go.RowKit
set_option maxRecDepth 100000
set_option maxHeartbeats 2000000
theorem argFunc2 (f : FuncId) (w : World) :
    Calls Tryz.prog 25 #[.func (.func f) #[] #[]] w fun e w' => e = .returned (.agg #[.int .i64 4, .bool false, .func (.func 31) #[] #[.pointer (some ⟨w.heap.size, 0, none⟩)]]) ∧ w' = (w.alloc (.cells #[.func (.func f) #[] #[]] 59)).alloc (.cells #[.int .i64 4, .bool false, .func (.func 31) #[] #[.pointer (some ⟨w.heap.size, 0, none⟩)]] 39) := by
  go_enter Tryz.func25, Tryz.ntmps25
  go_wp2_with fail
  exact bodyPost_ret (v := (.agg #[.int .i64 4, .bool false, .func (.func 31) #[] #[.pointer (some ⟨w.heap.size, 0, none⟩)]])) (by simp [results, Tryz.results25, go_sem]) rfl ⟨rfl, rfl⟩
theorem zzArgFunc2 (w : World) :
    Calls Tryz.prog 18 #[] w fun e w' => e = .returned (.agg #[.int .i64 4, .bool false, .func (.func 31) #[] #[.pointer (some ⟨(w.heap.size + 1), 0, none⟩)]]) ∧ w' = ((w.alloc (.cells #[.int .i64 4, .bool false, .func (.func 31) #[] #[.pointer (some ⟨(w.heap.size + 1), 0, none⟩)]] 39)).alloc (.cells #[.func (.func 26) #[] #[]] 59)).alloc (.cells #[.int .i64 4, .bool false, .func (.func 31) #[] #[.pointer (some ⟨(w.heap.size + 1), 0, none⟩)]] 39) := by
  go_enter Tryz.func18, Tryz.ntmps18
  go_wp2_with fail
  refine (argFunc2 _ _).mono ?_
  rintro e w1 ⟨rfl, rfl⟩
  go_wp2_with fail
  exact bodyPost_ret (v := (.agg #[.int .i64 4, .bool false, .func (.func 31) #[] #[.pointer (some ⟨(w.heap.size + 1), 0, none⟩)]])) (by simp [results, Tryz.results18, go_sem]) rfl ⟨rfl, rfl⟩
end Go.Proofs.YtlhgfijpagfhpabGreatDoor
