/- zzInsertionSort: a fresh row, stably sorted. -/
import Derived.Test.YtlhgfijpagfhpabGreatDoorSby46
import Derived.Test.YtlhgfijpagfhpabGreatDoorSortU
namespace Go.Proofs.YtlhgfijpagfhpabGreatDoor
open Go.RowKit
set_option maxRecDepth 100000
set_option maxHeartbeats 4000000
/-- The row in the order t. -/
def rowT (xs : List Int) (t : Nat → Nat) (k : Nat) : Value := .int .i64 (keyP xs xs.length (t k))
theorem keyP_in (xs : List Int) {n k : Nat} (h : k < n) : keyP xs n k = xs.getD k 0 := by unfold keyP; rw [if_pos h]
theorem ins_out {key : Nat → Int} {i j : Nat} {t : Nat → Nat} (H : Re 0 i id t ∧ (∀ k, i ≤ k → t k = k) ∧ Srt key t 0 i) (hji : j ≤ i) (hk : ∀ k, j ≤ k → k < i → key (t i) < key (t k)) (hlo : j = 0 ∨ ¬ key (t i) < key (t (j - 1))) :
    Re 0 (i + 1) id (ins j i t) ∧ (∀ k, i + 1 ≤ k → ins j i t k = k) ∧ Srt key (ins j i t) 0 (i + 1) := by
  refine ⟨(H.1.mono (Nat.le_refl _) (by omega)).trans (Re.ins t (Nat.zero_le _) hji (by omega)), fun k h => ?_, ins_srt H.2.2 (Nat.zero_le _) hji (fun k _ h => ?_) (fun k h1 h2 => Or.inl (hk k h1 h2))⟩
  · unfold ins; rw [if_neg (by omega), if_neg (by omega)]; exact H.2.1 k (by omega)
  · have a := H.2.2.le (i := k) (j := j - 1) (Nat.zero_le _) (by omega) (by omega)
    have b := H.1.lt (i := k) (by omega)
    have c := H.2.1 i (Nat.le_refl _)
    rcases hlo with h0 | h0
    · omega
    · unfold bef; omega
theorem rowT_step (xs : List Int) (t : Nat → Nat) {m i : Nat} (h : m < i) (k : Nat) :
    (if k = m + 1 then Value.int .i64 (keyP xs xs.length (t m)) else if k = m then .int .i64 (keyP xs xs.length (t i)) else rowT xs (ins (m + 1) i t) k) = rowT xs (ins m i t) k := by
  rw [show ins m i t = sw (m + 1) m (ins (m + 1) i t) from (ins_step (j := m + 1) (by omega) (by omega) t).symm]
  unfold rowT sw
  by_cases h1 : k = m
  · rw [if_neg (by omega), if_pos h1, if_pos h1]; unfold ins; rw [if_pos rfl]
  · by_cases h2 : k = m + 1
    · rw [if_pos h2, if_neg h1, if_pos h2]; unfold ins; rw [if_neg (by omega), if_neg (by omega)]
    · rw [if_neg h2, if_neg h1, if_neg h1, if_neg h2]
end Go.Proofs.YtlhgfijpagfhpabGreatDoor
