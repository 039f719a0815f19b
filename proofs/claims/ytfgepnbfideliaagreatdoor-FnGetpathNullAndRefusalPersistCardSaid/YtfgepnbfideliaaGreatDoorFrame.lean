/- The frame's common part: what was there before a call reads behind it as it did; the closed facts on the program. -/
import Derived.Test.YtfgepnbfideliaaGreatDoorInts
import Derived.ProofKit
import Derived.OpenShut
import Derived.LaidMore
import Derived.Lay
import Derived.OpenVars
import Derived.Laws.Cover2
import Derived.SliceStrings
import Derived.SevenTiedAt
import Derived.Stop.Joined
namespace Go.Proofs.YtfgepnbfideliaaGreatDoor
open Go.ChangeShapes Go.WideShapes Go.ChangeAt Go.RowKit
open Go.ChangeMaps (open_string)
theorem own : ownKnob Tryz.prog.godebug = none := by kernel_rfl
theorem laidOut : laidOutB Tryz.prog = true := by kernel_rfl
theorem band {a b : Bool} (ha : a = true) (hb : b = true) : (a && b) = true := by rw [ha, hb]; rfl
/-- The types of ts can be read and are rows of the table. -/
def rowed (P : Program) (ts : List TypeId) : Bool := ts.all fun t => P.readableRec t && decide (t < P.types.size)
theorem below_trodAll {H : Type} {enc : TypeId × Value → H} {P : Program} (hl : laidOutB P = true) {W W' : World} (hb : Below W.heap.size W W') :
    ∀ {ts : List TypeId} {vs : List Value} {ds : List (DataW H)} {ps : List MemPlace}, rowed P ts = true → DataW.TrodAll enc P W 0 (fun _ => true) true ts vs ds ps → (∀ x ∈ ps, x.block < W.heap.size) →
      DataW.TrodAll enc P W' 0 (fun b => decide (b < W.heap.size)) true ts vs ds ps
  | [], [], [], _, _, h, _ => h
  | [], _ :: _, _, _, _, h, _ => h.elim
  | [], [], _ :: _, _, _, h, _ => h.elim
  | _ :: _, [], _, _, _, h, _ => h.elim
  | _ :: _, _ :: _, [], _, _, h, _ => h.elim
  | t :: ts, v :: vs, d :: ds, ps, hr, h, hlt => by
    obtain ⟨p, q, h1, h2, rfl⟩ := h
    simp only [rowed, List.all_cons, Bool.and_eq_true, decide_eq_true_eq] at hr
    exact ⟨p, q, Below.trod hl hr.1.1 hr.1.2 h1 hb (fun x hx => hlt x (by simp [hx])), below_trodAll hl hb (by simpa [rowed] using hr.2) h2 (fun x hx => hlt x (by simp [hx])), rfl⟩
theorem trodVars_length {H : Type} {enc : TypeId × Value → H} {P : Program} {w : World} {sp : Nat → Bool} : ∀ {ns : List String} {gs : List (DataW H)} {q : List MemPlace}, DataW.TrodVars enc P w sp ns gs q → gs.length = ns.length
  | [], [], _, _ => rfl
  | [], _ :: _, _, h => h.elim
  | _ :: _, [], _, h => h.elim
  | _ :: ns, _ :: gs, _, h => by
    obtain ⟨_, _, _, _, _, _, _, _, _, _, hs, _⟩ := h
    simp [trodVars_length hs]
theorem list_of_1 {α : Type} {l : List α} (h : l.length = 1) : ∃ x0, l = [x0] := by
  match l, h with
  | [x0], _ => exact ⟨x0, rfl⟩
theorem list_of_2 {α : Type} {l : List α} (h : l.length = 2) : ∃ x0 x1, l = [x0, x1] := by
  match l, h with
  | [x0, x1], _ => exact ⟨x0, x1, rfl⟩
theorem list_of_3 {α : Type} {l : List α} (h : l.length = 3) : ∃ x0 x1 x2, l = [x0, x1, x2] := by
  match l, h with
  | [x0, x1, x2], _ => exact ⟨x0, x1, x2, rfl⟩
theorem list_of_4 {α : Type} {l : List α} (h : l.length = 4) : ∃ x0 x1 x2 x3, l = [x0, x1, x2, x3] := by
  match l, h with
  | [x0, x1, x2, x3], _ => exact ⟨x0, x1, x2, x3, rfl⟩
theorem list_of_5 {α : Type} {l : List α} (h : l.length = 5) : ∃ x0 x1 x2 x3 x4, l = [x0, x1, x2, x3, x4] := by
  match l, h with
  | [x0, x1, x2, x3, x4], _ => exact ⟨x0, x1, x2, x3, x4, rfl⟩
theorem list_of_6 {α : Type} {l : List α} (h : l.length = 6) : ∃ x0 x1 x2 x3 x4 x5, l = [x0, x1, x2, x3, x4, x5] := by
  match l, h with
  | [x0, x1, x2, x3, x4, x5], _ => exact ⟨x0, x1, x2, x3, x4, x5, rfl⟩
theorem list_of_7 {α : Type} {l : List α} (h : l.length = 7) : ∃ x0 x1 x2 x3 x4 x5 x6, l = [x0, x1, x2, x3, x4, x5, x6] := by
  match l, h with
  | [x0, x1, x2, x3, x4, x5, x6], _ => exact ⟨x0, x1, x2, x3, x4, x5, x6, rfl⟩
theorem list_of_8 {α : Type} {l : List α} (h : l.length = 8) : ∃ x0 x1 x2 x3 x4 x5 x6 x7, l = [x0, x1, x2, x3, x4, x5, x6, x7] := by
  match l, h with
  | [x0, x1, x2, x3, x4, x5, x6, x7], _ => exact ⟨x0, x1, x2, x3, x4, x5, x6, x7, rfl⟩
theorem list_of_9 {α : Type} {l : List α} (h : l.length = 9) : ∃ x0 x1 x2 x3 x4 x5 x6 x7 x8, l = [x0, x1, x2, x3, x4, x5, x6, x7, x8] := by
  match l, h with
  | [x0, x1, x2, x3, x4, x5, x6, x7, x8], _ => exact ⟨x0, x1, x2, x3, x4, x5, x6, x7, x8, rfl⟩
theorem list_of_10 {α : Type} {l : List α} (h : l.length = 10) : ∃ x0 x1 x2 x3 x4 x5 x6 x7 x8 x9, l = [x0, x1, x2, x3, x4, x5, x6, x7, x8, x9] := by
  match l, h with
  | [x0, x1, x2, x3, x4, x5, x6, x7, x8, x9], _ => exact ⟨x0, x1, x2, x3, x4, x5, x6, x7, x8, x9, rfl⟩
theorem list_of_11 {α : Type} {l : List α} (h : l.length = 11) : ∃ x0 x1 x2 x3 x4 x5 x6 x7 x8 x9 x10, l = [x0, x1, x2, x3, x4, x5, x6, x7, x8, x9, x10] := by
  match l, h with
  | [x0, x1, x2, x3, x4, x5, x6, x7, x8, x9, x10], _ => exact ⟨x0, x1, x2, x3, x4, x5, x6, x7, x8, x9, x10, rfl⟩
theorem list_of_12 {α : Type} {l : List α} (h : l.length = 12) : ∃ x0 x1 x2 x3 x4 x5 x6 x7 x8 x9 x10 x11, l = [x0, x1, x2, x3, x4, x5, x6, x7, x8, x9, x10, x11] := by
  match l, h with
  | [x0, x1, x2, x3, x4, x5, x6, x7, x8, x9, x10, x11], _ => exact ⟨x0, x1, x2, x3, x4, x5, x6, x7, x8, x9, x10, x11, rfl⟩
theorem list_of_13 {α : Type} {l : List α} (h : l.length = 13) : ∃ x0 x1 x2 x3 x4 x5 x6 x7 x8 x9 x10 x11 x12, l = [x0, x1, x2, x3, x4, x5, x6, x7, x8, x9, x10, x11, x12] := by
  match l, h with
  | [x0, x1, x2, x3, x4, x5, x6, x7, x8, x9, x10, x11, x12], _ => exact ⟨x0, x1, x2, x3, x4, x5, x6, x7, x8, x9, x10, x11, x12, rfl⟩
theorem list_of_14 {α : Type} {l : List α} (h : l.length = 14) : ∃ x0 x1 x2 x3 x4 x5 x6 x7 x8 x9 x10 x11 x12 x13, l = [x0, x1, x2, x3, x4, x5, x6, x7, x8, x9, x10, x11, x12, x13] := by
  match l, h with
  | [x0, x1, x2, x3, x4, x5, x6, x7, x8, x9, x10, x11, x12, x13], _ => exact ⟨x0, x1, x2, x3, x4, x5, x6, x7, x8, x9, x10, x11, x12, x13, rfl⟩
set_option maxRecDepth 100000 in
/-- An argument of type []int, opened. -/
theorem open_intsL {P : Program} {H : Type} {enc : TypeId × Value → H} {w : World} {v : Value} {d : DataW H} {ps : List MemPlace} {r : Reach} {b0 : Nat} {sp : Nat → Bool} {T E : TypeId} (hT : P.underlying T = some (.slice E)) (hE : P.underlying E = some (.int .i64)) (hc : P.cellsOf E = 1)
    (hval : Value.okWide P w r b0 T v) (h : DataW.Trod enc P w 0 sp true T v d ps) :
    ∃ xs : List Int, ∃ p c, v = .slice p xs.length c ∧ Ints w (.slice p xs.length c) xs ∧ (xs.length : Int) ≤ 9223372036854775807 ∧ (∀ x ∈ xs, -9223372036854775808 ≤ x ∧ x ≤ 9223372036854775807) := by
  obtain ⟨a0, len, cap, rfl⟩ := okWide_slice hT hval
  obtain ⟨fuel, hf⟩ := h
  rcases open_ints hT hE hc hf with ⟨hcs, hx⟩ | ⟨a, len', cap', zs, hcs, _, hl, hm, hz, hx, hcell, hwz⟩
  · simp [Value.cells] at hcs
    obtain ⟨rfl, rfl, rfl⟩ := hcs
    exact ⟨[], none, 0, rfl, Or.inl ⟨rfl, rfl⟩, by simp, by simp⟩
  · simp [Value.cells] at hcs
    obtain ⟨rfl, rfl, rfl⟩ := hcs
    unfold maxLen at hm
    have hzl : len ≤ zs.length := by rw [hz]; split <;> omega
    have hlen : (zs.take len).length = len := by simp; omega
    refine ⟨zs.take len, some a, cap, by rw [hlen], ?_, by rw [hlen]; omega, fun x hx => ?_⟩
    · by_cases h0 : len = 0
      · subst h0; exact Or.inr (Or.inl ⟨a, cap, by simp, by simp⟩)
      · obtain ⟨b, off, rfl, hc'⟩ := ints_at hcell (by omega)
        refine Or.inr (Or.inr ⟨b, off, cap, rfl, fun i hi => ?_⟩)
        rw [hlen] at hi
        rw [hc' i (by omega)]
        simp [List.getD, List.getElem?_eq_getElem (show i < zs.length by omega)]
    · have := hwz x (List.mem_of_mem_take hx)
      simpa [Lit.wf, IntKind.min, IntKind.max, IntKind.signed, IntKind.bits] using this
end Go.Proofs.YtfgepnbfideliaaGreatDoor
