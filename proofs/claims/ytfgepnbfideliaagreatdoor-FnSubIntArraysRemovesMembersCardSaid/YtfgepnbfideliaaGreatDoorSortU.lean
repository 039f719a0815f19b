/- The stable order is one only. -/
import Derived.Test.YtfgepnbfideliaaGreatDoorSortP
namespace Go.Proofs.YtfgepnbfideliaaGreatDoor
theorem bef_irrefl {key : Nat → Int} {x : Nat} (h : bef key x x) : False := by unfold bef at h; omega
theorem bef_asymm {key : Nat → Int} {x y : Nat} (h : bef key x y) (k : bef key y x) : False := by unfold bef at *; omega
theorem Re.surj {n : Nat} {t : Nat → Nat} (h : Re 0 n id t) {v : Nat} (hv : v < n) : ∃ j, j < n ∧ t j = v := by
  obtain ⟨f, g, h1, h2, h3, h4⟩ := h
  refine ⟨g v, ?_, by rw [h4, id, h1]⟩
  apply Classical.byContradiction
  intro hn
  have e := h3 (g v) (by omega)
  rw [h1] at e
  omega
theorem Re.lt {n : Nat} {t : Nat → Nat} (h : Re 0 n id t) {i : Nat} (hi : i < n) : t i < n :=
  h.all (p := fun x => x < n) (fun j _ h => h) i (Nat.zero_le _) hi
theorem stable_unique {key : Nat → Int} {n : Nat} {t u : Nat → Nat} (h1 : Re 0 n id t) (h2 : Re 0 n id u) (s1 : Srt key t 0 n) (s2 : Srt key u 0 n) : ∀ i, i < n → t i = u i := by
  intro i
  induction i using Nat.strongRecOn with
  | _ i IH =>
    intro hi
    obtain ⟨j, j1, j2⟩ := h1.surj (h2.lt hi)
    obtain ⟨k, k1, k2⟩ := h2.surj (h1.lt hi)
    have hj : i ≤ j := by
      apply Classical.byContradiction
      intro hn
      have e := IH j (by omega) j1
      have b := s2 j i (Nat.zero_le _) (by omega) hi
      rw [← e, j2] at b
      exact bef_irrefl b
    have hk : i ≤ k := by
      apply Classical.byContradiction
      intro hn
      have e := IH k (by omega) k1
      have b := s1 k i (Nat.zero_le _) (by omega) hi
      rw [e, k2] at b
      exact bef_irrefl b
    by_cases e1 : j = i
    · rw [← e1] at j2 ⊢; rw [j2, e1]
    · by_cases e2 : k = i
      · rw [← e2] at k2 ⊢; rw [k2, e2]
      · have b1 := s1 i j (Nat.zero_le _) (by omega) j1
        have b2 := s2 i k (Nat.zero_le _) (by omega) k1
        rw [j2] at b1
        rw [k2] at b2
        exact (bef_asymm b1 b2).elim
end Go.Proofs.YtfgepnbfideliaaGreatDoor
