/- FnSortIntsMatchesInsertionSort and FnSortIntsIdempotent: they return true. -/
import Derived.Test.YtlhgfijpagfhpabGreatDoorMod46
import Derived.Test.YtlhgfijpagfhpabGreatDoorEq46
namespace Go.Proofs.YtlhgfijpagfhpabGreatDoor
open Go.RowKit
set_option maxRecDepth 100000
set_option maxHeartbeats 4000000
theorem StableBy.unique {vs ks ys zs : List Int} (h1 : StableBy vs ks ys) (h2 : StableBy vs ks zs) : ys = zs := by
  obtain ⟨t, r1, s1, rfl⟩ := h1
  obtain ⟨u, r2, s2, rfl⟩ := h2
  have e := stable_unique r1 r2 s1 s2
  unfold Picked
  apply List.map_congr_left
  intro i hi
  rw [e i (List.mem_range.1 hi)]
theorem StableBy.again {xs ys : List Int} (h : StableBy xs xs ys) : StableBy ys ys ys := by
  obtain ⟨t, r, s, rfl⟩ := h
  have hl := Picked.len t xs
  have hg : ∀ i, i < xs.length → (Picked t xs).getD i 0 = keyP xs xs.length (t i) := fun i h => by
    rw [keyP_in xs (r.lt h)]; simp [Picked, List.getD, h]
  refine ⟨id, Re.refl _ _ _, fun i j _ h2 h3 => ?_, ?_⟩
  · rw [hl] at h3 ⊢
    have b := bef_le (s i j (Nat.zero_le _) h2 h3)
    unfold bef
    rw [id, id, keyP_in _ (show i < xs.length by omega), keyP_in _ h3, hg i (by omega), hg j h3]
    omega
  · apply List.ext_getElem
    · exact (Picked.len id _).symm
    · intro i h1 h2
      rw [Picked.get id (Picked t xs) h2]
      simp [List.getD, h1]
end Go.Proofs.YtlhgfijpagfhpabGreatDoor
