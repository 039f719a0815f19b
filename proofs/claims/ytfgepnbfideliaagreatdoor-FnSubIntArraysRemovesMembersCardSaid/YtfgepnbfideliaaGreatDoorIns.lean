/- Insertion sort by shifting, in plain words: a row with a hole. -/
import Derived.Test.YtfgepnbfideliaaGreatDoorSortU
import Derived.Test.YtfgepnbfideliaaGreatDoorInts
namespace Go.Proofs.YtfgepnbfideliaaGreatDoor
open Go.RowKit
def keyP (ks : List Int) (n x : Nat) : Int := ks.getD (if x < n then x else 0) 0
theorem keyP_in (xs : List Int) {n k : Nat} (h : k < n) : keyP xs n k = xs.getD k 0 := by unfold keyP; rw [if_pos h]
theorem ins_out {key : Nat → Int} {i j : Nat} {t : Nat → Nat} (H : Re 0 i id t ∧ (∀ k, i ≤ k → t k = k) ∧ Srt key t 0 i) (hji : j ≤ i) (hk : ∀ k, j ≤ k → k < i → key (t i) < key (t k)) (hlo : j = 0 ∨ ¬ key (t i) < key (t (j - 1))) :
    Re 0 (i + 1) id (ins j i t) ∧ (∀ k, i + 1 ≤ k → ins j i t k = k) ∧ Srt key (ins j i t) 0 (i + 1) := by
  refine ⟨(H.1.mono (Nat.le_refl _) (by omega)).trans (Re.ins t (Nat.zero_le _) hji (by omega)), fun k h => ?_, ins_srt H.2.2 (Nat.zero_le _) hji (fun k _ h => ?_) (fun k h1 h2 => Or.inl (hk k h1 h2))⟩
  · unfold ins; rw [if_neg (by omega), if_neg (by omega)]; exact H.2.1 k (by omega)
  · have a := H.2.2.le (i := k) (j := j - 1) (Nat.zero_le _) (by omega) (by omega)
    have b := H.1.lt (i := k) (by omega)
    have c := H.2.1 i (Nat.le_refl _)
    rcases hlo with h0 | h0
    · omega
    · unfold bef; omega
/-- The row in the order t. -/
def rowT (xs : List Int) (t : Nat → Nat) (k : Nat) : Value := .int .i64 (keyP xs xs.length (t k))
/-- The row while place i's number is in the hand and place j is free. -/
def rowH (xs : List Int) (j i : Nat) (t : Nat → Nat) (k : Nat) : Value := .int .i64 (keyP xs xs.length (if j < k ∧ k ≤ i then t (k - 1) else t k))
theorem rowH_self (xs : List Int) (i : Nat) (t : Nat → Nat) (k : Nat) : rowT xs t k = rowH xs i i t k := by
  unfold rowH rowT; rw [if_neg (by omega)]
theorem rowH_lo (xs : List Int) (t : Nat → Nat) {m i : Nat} (h : m < i) : rowH xs (m + 1) i t m = .int .i64 (keyP xs xs.length (t m)) := by
  unfold rowH; rw [if_neg (by omega)]
theorem rowH_step (xs : List Int) (t : Nat → Nat) {m i : Nat} (h : m < i) (k : Nat) : (if k = m + 1 then Value.int .i64 (keyP xs xs.length (t m)) else rowH xs (m + 1) i t k) = rowH xs m i t k := by
  unfold rowH
  by_cases h1 : k = m + 1
  · rw [if_pos h1, if_pos (by omega), h1]; rfl
  · rw [if_neg h1]
    by_cases h2 : m + 1 < k ∧ k ≤ i
    · rw [if_pos h2, if_pos (by omega)]
    · rw [if_neg h2, if_neg (by omega)]
theorem rowH_close (xs : List Int) (t : Nat → Nat) {j i : Nat} (k : Nat) : (if k = j then Value.int .i64 (keyP xs xs.length (t i)) else rowH xs j i t k) = rowT xs (ins j i t) k := by
  unfold rowH rowT ins
  by_cases h1 : k = j
  · rw [if_pos h1, if_pos h1]
  · rw [if_neg h1, if_neg h1]
/-- What is sorted holds what was there. -/
theorem sorted_mem (xs : List Int) {t : Nat → Nat} (h : Re 0 xs.length id t) (x : Int) : (∃ i, i < xs.length ∧ keyP xs xs.length (t i) = x) ↔ x ∈ xs := by
  constructor
  · rintro ⟨i, hi, rfl⟩
    rw [keyP_in xs (h.lt hi)]
    have := h.lt hi
    simp [List.getD, this]
  · intro hx
    obtain ⟨j, hj, rfl⟩ := List.getElem_of_mem hx
    obtain ⟨i, hi, e⟩ := h.surj hj
    exact ⟨i, hi, by rw [e, keyP_in xs hj]; simp [List.getD, hj]⟩
/-- The elements of l that are none of r's. -/
def keepL (l r : List Int) : List Int := l.filter fun x => !r.contains x
theorem keepL_snoc (l r : List Int) (k : Nat) (h : k < l.length) : keepL (l.take (k + 1)) r = if r.contains l[k] then keepL (l.take k) r else keepL (l.take k) r ++ [l[k]] := by
  unfold keepL
  rw [List.take_succ_eq_append_getElem h, List.filter_append]
  by_cases hc : r.contains l[k]
  · rw [if_pos hc]; simp only [List.contains_iff_mem] at hc; simp [List.filter_cons, hc]
  · rw [if_neg hc]; simp only [List.contains_iff_mem] at hc; simp [List.filter_cons, hc]
theorem keepL_len (l r : List Int) : (keepL l r).length ≤ l.length := List.length_filter_le _ _
theorem keepL_get (l r : List Int) (k : Nat) (h : k < l.length) (hc : r.contains l[k] = false) : (keepL (l.take k) r).length < (keepL l r).length ∧ (keepL l r).getD (keepL (l.take k) r).length 0 = l[k] := by
  have e : keepL l r = keepL (l.take k) r ++ l[k] :: keepL (l.drop (k + 1)) r := by
    unfold keepL
    conv => lhs; rw [← List.take_append_drop k l, List.drop_eq_getElem_cons h]
    rw [List.filter_append, List.filter_cons, hc]
    rfl
  rw [e]
  simp [List.getD]
end Go.Proofs.YtfgepnbfideliaaGreatDoor
