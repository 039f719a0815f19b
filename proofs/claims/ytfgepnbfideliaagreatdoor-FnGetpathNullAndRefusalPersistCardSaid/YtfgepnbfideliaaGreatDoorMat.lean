/- Slices of bools and slices of slices of ints as lists; such arguments opened. -/
import Derived.Test.YtfgepnbfideliaaGreatDoorFrame
import Derived.Deep.Matrix
import Derived.Deep.Grids
namespace Go.Proofs.YtfgepnbfideliaaGreatDoor
open Go.ChangeShapes Go.WideShapes Go.ChangeAt Go.RowKit
/-- The slice value v reads, in the world w, as the list xs of bools. -/
def Bools (w : World) (v : Value) (xs : List Bool) : Prop :=
  (v = .slice none 0 0 ∧ xs = []) ∨ (∃ a cap, v = .slice (some a) 0 cap ∧ xs = []) ∨ ∃ b o cap, v = .slice (some ⟨b, o, none⟩) xs.length cap ∧ ∀ i, (h : i < xs.length) → w.cell? ⟨b, o + i, none⟩ = some (.bool xs[i])
theorem Bools.below {w w' : World} {v : Value} {xs : List Bool} (h : Bools w v xs) (hb : Below w.heap.size w w') : Bools w' v xs := by
  rcases h with h | h | ⟨b, o, cap, rfl, hc⟩
  · exact Or.inl h
  · exact Or.inr (Or.inl h)
  · exact Or.inr (Or.inr ⟨b, o, cap, rfl, fun i hi => (hb.cell (p := ⟨b, o + i, none⟩) (lt_of_cell' (hc i hi))).trans (hc i hi)⟩)
/-- The slice value v reads, in the world w, as the rows m of ints. -/
def Mat2 (w : World) (v : Value) (m : List (List Int)) : Prop :=
  (v = .slice none 0 0 ∧ m = []) ∨ (∃ a cap, v = .slice (some a) 0 cap ∧ m = []) ∨ ∃ b o cap, v = .slice (some ⟨b, o, none⟩) m.length cap ∧
    ∀ r, (h : r < m.length) → ∃ p c, w.cell? ⟨b, o + r, none⟩ = some (.slice p m[r].length c) ∧ Ints w (.slice p m[r].length c) m[r]
theorem Mat2.below {w w' : World} {v : Value} {m : List (List Int)} (h : Mat2 w v m) (hb : Below w.heap.size w w') : Mat2 w' v m := by
  rcases h with h | h | ⟨b, o, cap, rfl, hc⟩
  · exact Or.inl h
  · exact Or.inr (Or.inl h)
  · refine Or.inr (Or.inr ⟨b, o, cap, rfl, fun r hr => ?_⟩)
    obtain ⟨p, c, h1, h2⟩ := hc r hr
    exact ⟨p, c, (hb.cell (p := ⟨b, o + r, none⟩) (lt_of_cell' h1)).trans h1, h2.below hb⟩
theorem spot_none {w : World} {a : Addr} {v : Value} (h : w.cell? (a.add 0) = some v) : ∃ b o, a = ⟨b, o, none⟩ := by
  obtain ⟨b, off, spot⟩ := a
  have hspot : spot = none := by simpa [Addr.add] using World.cell?_spot h
  subst hspot
  exact ⟨b, off, rfl⟩
set_option maxRecDepth 100000 in
theorem open_boolsL {P : Program} {H : Type} {enc : TypeId × Value → H} {w : World} {v : Value} {d : DataW H} {ps : List MemPlace} {r : Reach} {b0 : Nat} {T E : TypeId} (hT : P.underlying T = some (.slice E)) (hE : P.underlying E = some .bool) (hc : P.cellsOf E = 1)
    (hval : Value.okWide P w r b0 T v) (h : DataW.Trod enc P w 0 (fun _ => true) true T v d ps) :
    ∃ xs : List Bool, ∃ p c, v = .slice p xs.length c ∧ Bools w (.slice p xs.length c) xs ∧ (xs.length : Int) ≤ 9223372036854775807 ∧ True := by
  obtain ⟨a0, len, cap, rfl⟩ := okWide_slice hT hval
  obtain ⟨fuel, hf⟩ := h
  rcases Go.Deep.open_bools hT hE hc hf with ⟨hcs, hx⟩ | ⟨a, len', cap', B, hcs, _, hl, hm, hx, hcell⟩
  · simp [Value.cells] at hcs
    obtain ⟨rfl, rfl, rfl⟩ := hcs
    exact ⟨[], none, 0, rfl, Or.inl ⟨rfl, rfl⟩, by simp, trivial⟩
  · simp [Value.cells] at hcs
    obtain ⟨rfl, rfl, rfl⟩ := hcs
    unfold maxLen at hm
    have hlen : ((List.range len).map B).length = len := by simp
    refine ⟨(List.range len).map B, some a, cap, by rw [hlen], ?_, by rw [hlen]; omega, trivial⟩
    by_cases h0 : len = 0
    · subst h0; exact Or.inr (Or.inl ⟨a, cap, by simp, by simp⟩)
    · obtain ⟨b, off, rfl⟩ := spot_none (hcell 0 (by omega))
      refine Or.inr (Or.inr ⟨b, off, cap, rfl, fun i hi => ?_⟩)
      rw [hlen] at hi
      rw [← Go.WideShapes.add_plain, hcell i (by omega)]
      simp
set_option maxRecDepth 100000 in
theorem open_intsLL {P : Program} {H : Type} {enc : TypeId × Value → H} {w : World} {v : Value} {d : DataW H} {ps : List MemPlace} {r : Reach} {b0 : Nat} {T E Q : TypeId} (hT : P.underlying T = some (.slice E)) (hE : P.underlying E = some (.slice Q)) (hQ : P.underlying Q = some (.int .i64)) (ce : P.cellsOf E = 1) (cq : P.cellsOf Q = 1)
    (hval : Value.okWide P w r b0 T v) (h : DataW.Trod enc P w 0 (fun _ => true) true T v d ps) :
    ∃ m : List (List Int), ∃ p c, v = .slice p m.length c ∧ Mat2 w (.slice p m.length c) m ∧ (m.length : Int) ≤ 9223372036854775807 ∧ (∀ x ∈ m, (x.length : Int) ≤ 9223372036854775807 ∧ ∀ y ∈ x, -9223372036854775808 ≤ y ∧ y ≤ 9223372036854775807) := by
  obtain ⟨a0, len, cap, rfl⟩ := okWide_slice hT hval
  obtain ⟨fuel, hf⟩ := h
  rcases Go.Deep.open_int_rows hT hE hQ ce cq hf with ⟨hcs, hx⟩ | ⟨a, len', cap', A, L, C, Z, hcs, _, hl, hm, hx, hrow⟩
  · simp [Value.cells] at hcs
    obtain ⟨rfl, rfl, rfl⟩ := hcs
    exact ⟨[], none, 0, rfl, Or.inl ⟨rfl, rfl⟩, by simp, by simp⟩
  · simp [Value.cells] at hcs
    obtain ⟨rfl, rfl, rfl⟩ := hcs
    unfold maxLen at hm
    have hlen : ((List.range len).map fun r => (Z r).take (L r)).length = len := by simp
    have hzl : ∀ r, r < cap → ((Z r).take (L r)).length = L r := fun r hr => by
      obtain ⟨_, h2, _, h4, _⟩ := hrow r hr
      simp; omega
    refine ⟨(List.range len).map fun r => (Z r).take (L r), some a, cap, by rw [hlen], ?_, by rw [hlen]; omega, fun x hx => ?_⟩
    · by_cases h0 : len = 0
      · subst h0; exact Or.inr (Or.inl ⟨a, cap, by simp, by simp⟩)
      · obtain ⟨b, off, rfl⟩ := spot_none (hrow 0 (by omega)).1
        refine Or.inr (Or.inr ⟨b, off, cap, by rw [hlen], fun r hr => ?_⟩)
        rw [hlen] at hr
        obtain ⟨h1, h2, h3, h4, h5, h6, h7⟩ := hrow r (by omega)
        have hl2 := hzl r (by omega)
        simp only [List.getElem_map, List.getElem_range]
        rw [hl2]
        refine ⟨A r, C r, by rw [← Go.WideShapes.add_plain]; exact h1, ?_⟩
        cases hA : A r with
        | none =>
          have hc0 := h6 hA
          have hL0 : L r = 0 := by omega
          rw [hL0, hc0]
          exact Or.inl ⟨rfl, by simp⟩
        | some a' =>
          obtain ⟨_, hcell⟩ := h7 a' hA
          by_cases hL0 : L r = 0
          · rw [hL0]
            exact Or.inr (Or.inl ⟨a', C r, rfl, by simp⟩)
          · obtain ⟨b', o', rfl⟩ := spot_none (hcell 0 (by omega))
            refine Or.inr (Or.inr ⟨b', o', C r, by rw [hl2], fun i hi => ?_⟩)
            rw [hl2] at hi
            rw [← Go.WideShapes.add_plain, hcell i (by omega)]
            simp [List.getD, List.getElem?_eq_getElem (show i < (Z r).length by omega)]
    · obtain ⟨r, hr, rfl⟩ := List.mem_map.1 hx
      have hr' := List.mem_range.1 hr
      obtain ⟨h1, h2, h3, h4, h5, _⟩ := hrow r (by omega)
      unfold maxLen at h3
      refine ⟨by rw [hzl r (by omega)]; omega, fun y hy => ?_⟩
      have := h5 y (List.mem_of_mem_take hy)
      simpa [Lit.wf, IntKind.min, IntKind.max, IntKind.signed, IntKind.bits] using this
end Go.Proofs.YtfgepnbfideliaaGreatDoor
