/- A slice of strings as a list; an argument of type []string, opened. -/
import Derived.Test.YtfgepnbfideliaaGreatDoorFrame
import Derived.SliceStrings
namespace Go.Proofs.YtfgepnbfideliaaGreatDoor
open Go.ChangeShapes Go.WideShapes Go.ChangeAt Go.RowKit
/-- The slice value v reads, in the world w, as the list xs of strings. -/
def Strs (w : World) (v : Value) (xs : List ByteArray) : Prop :=
  (v = .slice none 0 0 ∧ xs = []) ∨ (∃ a cap, v = .slice (some a) 0 cap ∧ xs = []) ∨ ∃ b o cap, v = .slice (some ⟨b, o, none⟩) xs.length cap ∧ ∀ i, (h : i < xs.length) → w.cell? ⟨b, o + i, none⟩ = some (.string xs[i])
theorem Strs.below {w w' : World} {v : Value} {xs : List ByteArray} (h : Strs w v xs) (hb : Below w.heap.size w w') : Strs w' v xs := by
  rcases h with h | h | ⟨b, o, cap, rfl, hc⟩
  · exact Or.inl h
  · exact Or.inr (Or.inl h)
  · exact Or.inr (Or.inr ⟨b, o, cap, rfl, fun i hi => (hb.cell (p := ⟨b, o + i, none⟩) (lt_of_cell' (hc i hi))).trans (hc i hi)⟩)
theorem strs_at {w : World} {a : Addr} {zs : List ByteArray} (h : ∀ i, i < zs.length → w.cell? (a.add i) = some (.string (zs.getD i ByteArray.empty))) (hp : 0 < zs.length) :
    ∃ b off, a = ⟨b, off, none⟩ ∧ ∀ j, j < zs.length → w.cell? ⟨b, off + j, none⟩ = some (.string (zs.getD j ByteArray.empty)) := by
  obtain ⟨b, off, spot⟩ := a
  have hspot : spot = none := by simpa [Addr.add] using World.cell?_spot (h 0 hp)
  subst hspot
  exact ⟨b, off, rfl, fun j hj => by rw [← Go.WideShapes.add_plain]; exact h j hj⟩
set_option maxRecDepth 100000 in
theorem open_strsL {P : Program} {H : Type} {enc : TypeId × Value → H} {w : World} {v : Value} {d : DataW H} {ps : List MemPlace} {r : Reach} {b0 : Nat} {sp : Nat → Bool} {T E : TypeId} (hT : P.underlying T = some (.slice E)) (hE : P.underlying E = some .string) (hc : P.cellsOf E = 1)
    (hval : Value.okWide P w r b0 T v) (h : DataW.Trod enc P w 0 sp true T v d ps) :
    ∃ xs : List ByteArray, ∃ p c, v = .slice p xs.length c ∧ Strs w (.slice p xs.length c) xs ∧ (xs.length : Int) ≤ 9223372036854775807 ∧ (∀ x ∈ xs, (x.size : Int) ≤ 9223372036854775807) := by
  obtain ⟨a0, len, cap, rfl⟩ := okWide_slice hT hval
  obtain ⟨fuel, hf⟩ := h
  rcases open_strings hT hE hc hf with ⟨hcs, hx⟩ | ⟨a, len', cap', zs, hcs, _, hl, hm, hz, hx, hcell, hwz⟩
  · simp [Value.cells] at hcs
    obtain ⟨rfl, rfl, rfl⟩ := hcs
    exact ⟨[], none, 0, rfl, Or.inl ⟨rfl, rfl⟩, by simp, by simp⟩
  · simp [Value.cells] at hcs
    obtain ⟨rfl, rfl, rfl⟩ := hcs
    unfold maxLen at hm
    have hzl : len ≤ zs.length := by rw [hz]; split <;> omega
    have hlen : (zs.take len).length = len := by simp; omega
    refine ⟨zs.take len, some a, cap, by rw [hlen], ?_, by rw [hlen]; omega, fun x hx => ?_⟩
    · by_cases h0 : len = 0
      · subst h0; exact Or.inr (Or.inl ⟨a, cap, by simp, by simp⟩)
      · obtain ⟨b, off, rfl, hc'⟩ := strs_at hcell (by omega)
        refine Or.inr (Or.inr ⟨b, off, cap, rfl, fun i hi => ?_⟩)
        rw [hlen] at hi
        rw [hc' i (by omega)]
        simp [List.getD, List.getElem?_eq_getElem (show i < zs.length by omega)]
    · have := hwz x (List.mem_of_mem_take hx)
      unfold maxLen at this
      omega
end Go.Proofs.YtfgepnbfideliaaGreatDoor
