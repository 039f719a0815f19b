/- The frame's common part: what was there before a call reads behind it as it did; the closed facts on the program. -/
import Derived.Test.YtmfigefooicgiaaGreatDoorInts
import Derived.ProofKit
import Derived.OpenShut
import Derived.LaidMore
import Derived.Lay
import Derived.OpenVars
import Derived.Laws.Cover2
import Derived.SliceStrings
import Derived.SevenTiedAt
import Derived.Stop.Joined
namespace Go.Proofs.YtmfigefooicgiaaGreatDoor
open Go.ChangeShapes Go.WideShapes Go.ChangeAt Go.RowKit
open Go.ChangeMaps (open_string)
theorem own : ownKnob Tryz.prog.godebug = none := by kernel_rfl
theorem laidOut : laidOutB Tryz.prog = true := by kernel_rfl
/-- The types of ts can be read and are rows of the table. -/
def rowed (P : Program) (ts : List TypeId) : Bool := ts.all fun t => P.readableRec t && decide (t < P.types.size)
theorem below_trodAll {H : Type} {enc : TypeId × Value → H} {P : Program} (hl : laidOutB P = true) {W W' : World} (hb : Below W.heap.size W W') :
    ∀ {ts : List TypeId} {vs : List Value} {ds : List (DataW H)} {ps : List MemPlace}, rowed P ts = true → DataW.TrodAll enc P W 0 (fun _ => true) true ts vs ds ps → (∀ x ∈ ps, x.block < W.heap.size) →
      DataW.TrodAll enc P W' 0 (fun b => decide (b < W.heap.size)) true ts vs ds ps
  | [], [], [], _, _, h, _ => h
  | [], _ :: _, _, _, _, h, _ => h.elim
  | [], [], _ :: _, _, _, h, _ => h.elim
  | _ :: _, [], _, _, _, h, _ => h.elim
  | _ :: _, _ :: _, [], _, _, h, _ => h.elim
  | t :: ts, v :: vs, d :: ds, ps, hr, h, hlt => by
    obtain ⟨p, q, h1, h2, rfl⟩ := h
    simp only [rowed, List.all_cons, Bool.and_eq_true, decide_eq_true_eq] at hr
    exact ⟨p, q, Below.trod hl hr.1.1 hr.1.2 h1 hb (fun x hx => hlt x (by simp [hx])), below_trodAll hl hb (by simpa [rowed] using hr.2) h2 (fun x hx => hlt x (by simp [hx])), rfl⟩
theorem trodVars_length {H : Type} {enc : TypeId × Value → H} {P : Program} {w : World} {sp : Nat → Bool} : ∀ {ns : List String} {gs : List (DataW H)} {q : List MemPlace}, DataW.TrodVars enc P w sp ns gs q → gs.length = ns.length
  | [], [], _, _ => rfl
  | [], _ :: _, _, h => h.elim
  | _ :: _, [], _, h => h.elim
  | _ :: ns, _ :: gs, _, h => by
    obtain ⟨_, _, _, _, _, _, _, _, _, _, hs, _⟩ := h
    simp [trodVars_length hs]
theorem list_of_7 {α : Type} {l : List α} (h : l.length = 7) : ∃ a b c d e f g, l = [a, b, c, d, e, f, g] := by
  match l, h with
  | [a, b, c, d, e, f, g], _ => exact ⟨a, b, c, d, e, f, g, rfl⟩
set_option maxRecDepth 100000 in
/-- An argument of type []int, opened. -/
theorem open_intsL {P : Program} {H : Type} {enc : TypeId × Value → H} {w : World} {v : Value} {d : DataW H} {ps : List MemPlace} {r : Reach} {b0 : Nat} {sp : Nat → Bool} {T E : TypeId} (hT : P.underlying T = some (.slice E)) (hE : P.underlying E = some (.int .i64)) (hc : P.cellsOf E = 1)
    (hval : Value.okWide P w r b0 T v) (h : DataW.Trod enc P w 0 sp true T v d ps) :
    ∃ xs : List Int, ∃ p c, v = .slice p xs.length c ∧ Ints w (.slice p xs.length c) xs ∧ (xs.length : Int) ≤ 9223372036854775807 ∧ (∀ x ∈ xs, -9223372036854775808 ≤ x ∧ x ≤ 9223372036854775807) := by
  obtain ⟨a0, len, cap, rfl⟩ := okWide_slice hT hval
  obtain ⟨fuel, hf⟩ := h
  rcases open_ints hT hE hc hf with ⟨hcs, hx⟩ | ⟨a, len', cap', zs, hcs, _, hl, hm, hz, hx, hcell, hwz⟩
  · simp [Value.cells] at hcs
    obtain ⟨rfl, rfl, rfl⟩ := hcs
    exact ⟨[], none, 0, rfl, Or.inl ⟨rfl, rfl⟩, by simp, by simp⟩
  · simp [Value.cells] at hcs
    obtain ⟨rfl, rfl, rfl⟩ := hcs
    unfold maxLen at hm
    have hzl : len ≤ zs.length := by rw [hz]; split <;> omega
    have hlen : (zs.take len).length = len := by simp; omega
    refine ⟨zs.take len, some a, cap, by rw [hlen], ?_, by rw [hlen]; omega, fun x hx => ?_⟩
    · by_cases h0 : len = 0
      · subst h0; exact Or.inr (Or.inl ⟨a, cap, by simp, by simp⟩)
      · obtain ⟨b, off, rfl, hc'⟩ := ints_at hcell (by omega)
        refine Or.inr (Or.inr ⟨b, off, cap, rfl, fun i hi => ?_⟩)
        rw [hlen] at hi
        rw [hc' i (by omega)]
        simp [List.getD, List.getElem?_eq_getElem (show i < zs.length by omega)]
    · have := hwz x (List.mem_of_mem_take hx)
      simpa [Lit.wf, IntKind.min, IntKind.max, IntKind.signed, IntKind.bits] using this
end Go.Proofs.YtmfigefooicgiaaGreatDoor
