/- A slice of ints as a list; one-cell rows made with a variable size. -/
import Derived.Test.YtfgepnbfideliaaGreatDoorTa
import Derived.Deep.OwnRows
namespace Go.Proofs.YtfgepnbfideliaaGreatDoor
open Go.RowKit
/-- The slice value v reads, in the world w, as the list xs of ints. -/
def Ints (w : World) (v : Value) (xs : List Int) : Prop :=
  (v = .slice none 0 0 ∧ xs = []) ∨ (∃ a cap, v = .slice (some a) 0 cap ∧ xs = []) ∨ ∃ b o cap, v = .slice (some ⟨b, o, none⟩) xs.length cap ∧ ∀ i, (h : i < xs.length) → w.cell? ⟨b, o + i, none⟩ = some (.int .i64 xs[i])
theorem lt_of_cell' {w : World} {b o : Nat} {v : Value} (h : w.cell? ⟨b, o, none⟩ = some v) : b < w.heap.size := by
  rcases Nat.lt_or_ge b w.heap.size with h' | h'
  · exact h'
  · have : w.heap[b]? = none := Array.getElem?_eq_none h'
    simp [World.cell?, this] at h
theorem Ints.below {w w' : World} {v : Value} {xs : List Int} (h : Ints w v xs) (hb : Below w.heap.size w w') : Ints w' v xs := by
  rcases h with h | h | ⟨b, o, cap, rfl, hc⟩
  · exact Or.inl h
  · exact Or.inr (Or.inl h)
  · exact Or.inr (Or.inr ⟨b, o, cap, rfl, fun i hi => (hb.cell (p := ⟨b, o + i, none⟩) (lt_of_cell' (hc i hi))).trans (hc i hi)⟩)
theorem Ints.slice {w : World} {v : Value} {xs : List Int} (h : Ints w v xs) : ∃ p c, v = .slice p xs.length c := by
  rcases h with ⟨rfl, rfl⟩ | ⟨a, cap, rfl, rfl⟩ | ⟨b, o, cap, rfl, _⟩
  · exact ⟨_, _, rfl⟩
  · exact ⟨_, _, rfl⟩
  · exact ⟨_, _, rfl⟩
/-- The fields of a jq array that holds ints: what a slot of a new []any holds when the first k are laid. -/
def fillI (xs : List Int) (k : Nat) (i : Nat) : Value := if i < k then .iface 3 (.int .i64 (xs.getD i 0)) else .nilIface
/-- The same of a new []int. -/
def fillN (xs : List Int) (k : Nat) (i : Nat) : Value := if i < k then .int .i64 (xs.getD i 0) else .int .i64 0
theorem fillI_step (xs : List Int) (k : Nat) (hk : k < xs.length) : ∀ i, (if i = k then Value.iface 3 (.int .i64 xs[k]) else fillI xs k i) = fillI xs (k + 1) i := by
  intro i
  unfold fillI
  by_cases h : i = k
  · subst h; rw [if_pos rfl, if_pos (by omega)]; simp [List.getD, hk]
  · rw [if_neg h]
    by_cases h2 : i < k
    · rw [if_pos h2, if_pos (by omega)]
    · rw [if_neg h2, if_neg (by omega)]
theorem fillN_step (xs : List Int) (k : Nat) (hk : k < xs.length) : ∀ i, (if i = k then Value.int .i64 xs[k] else fillN xs k i) = fillN xs (k + 1) i := by
  intro i
  unfold fillN
  by_cases h : i = k
  · subst h; rw [if_pos rfl, if_pos (by omega)]; simp [List.getD, hk]
  · rw [if_neg h]
    by_cases h2 : i < k
    · rw [if_pos h2, if_pos (by omega)]
    · rw [if_neg h2, if_neg (by omega)]
theorem mkAny (n : Nat) (h : n ≤ 17592186044416) (w : World) : (Instr.makeSlice 61 (.int .i64 (n : Int)) (.int .i64 (n : Int))).run Tryz.prog w = .ok (.slice (some ⟨w.heap.size, 0, none⟩) n n) (w.alloc (.cells (madeCells #[.nilIface] n) 20)) :=
  run_make_row' 61 20 .nilIface 16 Tryz.underlying61 (by kernel_rfl) rfl .i64 .i64 n (by omega) (by omega) w
theorem mkInt (n : Nat) (h : n ≤ 17592186044416) (w : World) : (Instr.makeSlice 32 (.int .i64 (n : Int)) (.int .i64 (n : Int))).run Tryz.prog w = .ok (.slice (some ⟨w.heap.size, 0, none⟩) n n) (w.alloc (.cells (madeCells #[.int .i64 0] n) 3)) :=
  run_make_row' 32 3 (.int .i64 0) 8 Tryz.underlying32 (by kernel_rfl) rfl .i64 .i64 n (by omega) (by omega) w
@[go_sem] theorem nil_ints (w : World) (a : Option Addr) (n c : Nat) : (binOp .eql 32 (.slice a n c) (.slice none 0 0)).run Tryz.prog w = .ok (.bool a.isNone) w := Lib.run_eql_slice_nil w 32 3 a n c 0 0 Tryz.underlying32
@[go_sem] theorem nil_anys (w : World) (a : Option Addr) (n c : Nat) : (binOp .eql 61 (.slice a n c) (.slice none 0 0)).run Tryz.prog w = .ok (.bool a.isNone) w := Lib.run_eql_slice_nil w 61 20 a n c 0 0 Tryz.underlying61
end Go.Proofs.YtfgepnbfideliaaGreatDoor
