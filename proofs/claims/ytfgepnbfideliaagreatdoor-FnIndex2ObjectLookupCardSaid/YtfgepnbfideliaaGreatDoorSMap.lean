/- Maps with string keys whose block is known, entries in order: store, read. -/
import Derived.Test.YtfgepnbfideliaaGreatDoorMapL
import Derived.Below
import Derived.Lib.Strings
namespace Go.Proofs.YtfgepnbfideliaaGreatDoor
open Go.RowKit
variable {P : Program} {T E K : TypeId}
/-- Block r is a map whose entries are l, in the order of their first store. -/
def SMap (w : World) (r : Nat) (l : List (ByteArray × Value)) : Prop :=
  ∃ es c, w.heap[r]? = some (.map es c) ∧ es.toList.map (fun e => (e.key, e.val)) = l.map fun p => (Value.string p.1, p.2)
def sGet (k : ByteArray) : List (ByteArray × Value) → Option Value
  | [] => none
  | p :: l => if k = p.1 then some p.2 else sGet k l
def sPut (k : ByteArray) (v : Value) : List (ByteArray × Value) → List (ByteArray × Value)
  | [] => [(k, v)]
  | p :: l => if k = p.1 then (p.1, v) :: l else p :: sPut k v l
theorem sGet_put (k k' : ByteArray) (v : Value) : ∀ l, sGet k' (sPut k v l) = if k' = k then some v else sGet k' l
  | [] => by simp [sPut, sGet]
  | p :: l => by
    unfold sPut
    by_cases h : k = p.1
    · rw [if_pos h]
      unfold sGet
      by_cases h2 : k' = k
      · rw [if_pos (h2.trans h), if_pos h2]
      · rw [if_neg (by rw [← h]; exact h2), if_neg h2, if_neg (by rw [← h]; exact h2)]
    · rw [if_neg h]
      unfold sGet
      rw [sGet_put k k' v l]
      by_cases h2 : k' = p.1
      · rw [if_pos h2, if_pos h2, if_neg (by rw [h2]; exact fun e => h e.symm)]
      · rw [if_neg h2, if_neg h2]
theorem beq_str_ne {a b : ByteArray} (h : a ≠ b) : (a == b) = false := by
  rw [beq_toListBytes]
  simp only [beq_eq_false_iff_ne, ne_eq]
  intro e
  apply h
  rw [Lib.toList_data, Lib.toList_data] at e
  cases a; cases b
  simp only [Array.toList_inj] at e
  rw [e]
/-- Where the key stands, and what it bears. -/
def sFind (k : ByteArray) : List (ByteArray × Value) → Nat → Option (Nat × Value)
  | [], _ => none
  | p :: l, i => if k = p.1 then some (i, p.2) else sFind k l (i + 1)
theorem findNow_str (k : ByteArray) : ∀ (es : List MapEntry) (l : List (ByteArray × Value)) (i : Nat), es.map (fun e => (e.key, e.val)) = l.map (fun p => (Value.string p.1, p.2)) → Instr.findNow .string (.string k) es i = some (sFind k l i)
  | [], [], _, _ => rfl
  | [], _ :: _, _, h => by simp at h
  | _ :: _, [], _, h => by simp at h
  | e :: es, p :: l, i, h => by
    simp only [List.map_cons, List.cons.injEq, Prod.mk.injEq] at h
    obtain ⟨⟨h1, h2⟩, h3⟩ := h
    unfold Instr.findNow sFind
    rw [h1]
    by_cases hk : k = p.1
    · subst hk
      simp [Instr.sameNow, beq_str, h2]
    · simp only [Instr.sameNow, beq_str_ne hk, if_neg hk]
      exact findNow_str k es l (i + 1) h3
theorem sFind_none (k : ByteArray) (v : Value) : ∀ (l : List (ByteArray × Value)) (i : Nat), sFind k l i = none → sPut k v l = l ++ [(k, v)] ∧ sGet k l = none
  | [], _, _ => ⟨rfl, rfl⟩
  | p :: l, i, h => by
    unfold sFind at h
    by_cases hk : k = p.1
    · rw [if_pos hk] at h; cases h
    · rw [if_neg hk] at h
      obtain ⟨h1, h2⟩ := sFind_none k v l (i + 1) h
      unfold sPut sGet
      rw [if_neg hk, if_neg hk, h1, h2]
      exact ⟨rfl, rfl⟩
theorem sFind_some (k : ByteArray) (v : Value) : ∀ (l : List (ByteArray × Value)) (i j : Nat) (x : Value), sFind k l i = some (j, x) → i ≤ j ∧ j < i + l.length ∧ (∃ h : j - i < l.length, l[j - i].1 = k) ∧ sPut k v l = l.modify (j - i) (fun p => (p.1, v)) ∧ sGet k l = some x
  | [], _, _, _, h => by cases h
  | p :: l, i, j, x, h => by
    unfold sFind at h
    by_cases hk : k = p.1
    · rw [if_pos hk] at h
      simp only [Option.some.injEq, Prod.mk.injEq] at h
      obtain ⟨rfl, rfl⟩ := h
      refine ⟨Nat.le_refl _, by simp, ⟨by simp, by simp [hk]⟩, ?_, ?_⟩
      · unfold sPut; rw [if_pos hk, Nat.sub_self]; rfl
      · unfold sGet; rw [if_pos hk]
    · rw [if_neg hk] at h
      obtain ⟨h1, h2, ⟨h3, h4⟩, h5, h6⟩ := sFind_some k v l (i + 1) j x h
      have e : j - i = (j - (i + 1)) + 1 := by omega
      refine ⟨by omega, by simp; omega, ⟨by simp; omega, ?_⟩, ?_, ?_⟩
      · simp only [e, List.getElem_cons_succ]; exact h4
      · unfold sPut; rw [if_neg hk, h5, e]; rfl
      · unfold sGet; rw [if_neg hk]; exact h6
theorem SMap.made (w : World) : SMap (w.alloc (.map #[] 0)) w.heap.size [] := ⟨#[], 0, heap_last w _, rfl⟩
theorem SMap.lt {w : World} {r : Nat} {l : List (ByteArray × Value)} (h : SMap w r l) : r < w.heap.size := by
  obtain ⟨es, c, h, _⟩ := h
  rcases Nat.lt_or_ge r w.heap.size with h' | h'
  · exact h'
  · rw [Array.getElem?_eq_none h'] at h; cases h
theorem SMap.below {w w' : World} {r B : Nat} {l : List (ByteArray × Value)} (h : SMap w r l) (hb : Below B w w') (hr : r < B) : SMap w' r l := by
  obtain ⟨es, c, h1, h2⟩ := h
  exact ⟨es, c, (hb.block r hr).trans h1, h2⟩
theorem SMap.alloc {w : World} {r : Nat} {l : List (ByteArray × Value)} (h : SMap w r l) (o : Obj) : SMap (w.alloc o) r l := by
  have hl := h.lt
  obtain ⟨es, c, h1, h2⟩ := h
  exact ⟨es, c, heap_old w o h1, h2⟩
theorem SMap.lookup {w : World} {r : Nat} {l : List (ByteArray × Value)} (h : SMap w r l) (hT : P.underlying T = some (.map K E)) (hK : P.underlying K = some .string) {z : Value} (hz : (zeroValue E).run P w = .ok z w) (k : ByteArray) :
    (Instr.lookup T (.map (some r)) (.string k) false).run P w = .ok ((sGet k l).getD z) w := by
  obtain ⟨es, c, hb, he⟩ := h
  unfold Instr.lookup
  rw [Sem.run_bind, run_under hT]
  simp only [Result.andThen, Sem.run_bind, run_getObj hb (by simp), Sem.run_pure]
  rw [run_ck hK]
  simp only [Result.andThen, Instr.findKey, Sem.run_bind, run_under hK, findNow_str k es.toList l 0 he]
  cases hf : sFind k l 0 with
  | none =>
    rw [(sFind_none k z l 0 hf).2]
    simp [Sem.run_pure, hz]
  | some p =>
    obtain ⟨j, x⟩ := p
    rw [(sFind_some k z l 0 j x hf).2.2.2.2]
    simp [Sem.run_pure]
theorem run_stays (k : ByteArray) (w : World) : (Instr.keyThatStays (.string k) (.string k)).run P w = .ok (.string k) w := by
  simp [Instr.keyThatStays, Instr.sameBits, beq_str, Sem.run_pure]
theorem SMap.update {w : World} {r : Nat} {l : List (ByteArray × Value)} (h : SMap w r l) (hT : P.underlying T = some (.map K E)) (hK : P.underlying K = some .string) (k : ByteArray) (v : Value) :
    ∃ w', (Instr.mapUpdate T (.map (some r)) (.string k) v).run P w = .ok () w' ∧ SMap w' r (sPut k v l) ∧ ∀ B, B ≤ r → Below B w w' := by
  have hlt := h.lt
  obtain ⟨es, c, hb, he⟩ := h
  have back : ∀ o : Obj, ({ w with heap := w.heap.setIfInBounds r o } : World).heap[r]? = some o := fun o => by
    show (w.heap.setIfInBounds r o)[r]? = some o
    simp [hlt]
  have bel : ∀ o : Obj, ∀ B, B ≤ r → Below B w { w with heap := w.heap.setIfInBounds r o } := fun o B hB =>
    ⟨rfl, rfl, rfl, by simp, fun i hi => by show (w.heap.setIfInBounds r o)[i]? = _; rw [Array.getElem?_setIfInBounds_ne (by omega)]⟩
  unfold Instr.mapUpdate
  rw [Sem.run_bind, run_under hT]
  simp only [Result.andThen]
  rw [Sem.run_bind, run_getObj hb (by simp)]
  simp only [Result.andThen]
  rw [Sem.run_bind, run_ck hK]
  simp only [Result.andThen, Instr.findKey, Sem.run_bind, run_under hK, findNow_str k es.toList l 0 he, Sem.run_pure]
  cases hf : sFind k l 0 with
  | none =>
    simp only [run_setObj1 hb (by simp)]
    refine ⟨_, rfl, ⟨_, _, back _, ?_⟩, bel _⟩
    rw [(sFind_none k v l 0 hf).1]
    simp [he]
  | some p =>
    obtain ⟨j, x⟩ := p
    obtain ⟨_, _, ⟨h3, h4⟩, h5, _⟩ := sFind_some k v l 0 j x hf
    simp only [Nat.sub_zero] at h3 h4 h5
    have hlen : es.size = l.length := by have := congrArg List.length he; simpa using this
    have hj : ((es[j]?).map (·.key)).getD (.string k) = .string k := by
      have := congrArg (·[j]?) he
      simp only [List.getElem?_map, Array.getElem?_toList] at this
      rw [List.getElem?_eq_getElem h3] at this
      rw [Array.getElem?_eq_getElem (by omega)] at this ⊢
      simp only [Option.map_some, Option.some.injEq, Prod.mk.injEq] at this
      simp [this.1, h4]
    simp only [hj]
    rw [Sem.run_bind, run_stays]
    simp only [Result.andThen, run_setObj1 hb (by simp)]
    refine ⟨_, rfl, ⟨_, _, back _, ?_⟩, bel _⟩
    rw [h5, ← h4]
    apply List.ext_getElem?
    intro i
    have hi := congrArg (·[i]?) he
    simp only [List.getElem?_map, Array.getElem?_toList] at hi
    simp only [List.getElem?_map, Array.getElem?_toList, Array.getElem?_modify, List.getElem?_modify]
    by_cases e : j = i
    · subst e
      rw [if_pos rfl, Array.getElem?_eq_getElem (by omega), List.getElem?_eq_getElem h3]
      simp
    · rw [if_neg e]
      simp only [e, if_false]
      simpa using hi
end Go.Proofs.YtfgepnbfideliaaGreatDoor
