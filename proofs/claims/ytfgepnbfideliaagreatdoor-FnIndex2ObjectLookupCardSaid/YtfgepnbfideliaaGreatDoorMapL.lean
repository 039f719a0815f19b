/- Laws of the map instructions at maps with string keys whose block is known: made, filled with one entry, read, ranged over. -/
import Derived.Maps.RangeRun
import Derived.Laws.StructEq
namespace Go.Proofs.YtfgepnbfideliaaGreatDoor
variable {P : Program} {T E : TypeId}
theorem run_under {t : TypeId} {d : TypeDesc} (h : P.underlying t = some d) (w : World) : (underlying t).run P w = .ok d w := by
  simp [underlying, program, Sem.run_bind, Sem.run, h, Result.andThen]
theorem run_getObj {r : Nat} {o : Obj} {w : World} (h : w.heap[r]? = some o) (hc : ∀ c e f, o ≠ .cells c e f) : (getObj r).run P w = .ok o w := by
  cases o <;> simp_all [getObj, Sem.run]
theorem run_ck {K : TypeId} (hK : P.underlying K = some .string) (b : Bool) (n : Nat) (v : Value) (w : World) : (Instr.checkKey b (n + 1) K v).run P w = .ok () w := by
  unfold Instr.checkKey
  rw [Sem.run_bind, run_under hK]
  rfl
theorem heap_last (W : World) (o : Obj) : (W.alloc o).heap[W.heap.size]? = some o := by
  show (W.heap.push o)[W.heap.size]? = some o
  exact Array.getElem?_push_size
theorem last_set {α : Type} (a : Array α) (x y : α) : (a.push x).setIfInBounds a.size y = a.push y := by
  apply Array.ext'
  simp
theorem beq_str (s : ByteArray) : (s == s) = true := by rw [beq_toListBytes]; simp
theorem run_insert1 {K : TypeId} (hT : P.underlying T = some (.map K E)) (hK : P.underlying K = some .string) (W : World) (s : ByteArray) (v : Value) :
    (Instr.mapUpdate T (.map (some W.heap.size)) (.string s) v).run P (W.alloc (.map #[] 0)) = .ok () (W.alloc (.map #[⟨.string s, v, 0⟩] 1)) := by
  have hb : (W.alloc (.map #[] 0)).heap[W.heap.size]? = some (.map #[] 0) := heap_last W _
  unfold Instr.mapUpdate
  rw [Sem.run_bind, run_under hT]
  simp only [Result.andThen]
  rw [Sem.run_bind, run_getObj hb (by simp)]
  simp only [Result.andThen]
  rw [Sem.run_bind, run_ck hK]
  simp only [Result.andThen, Instr.findKey, Sem.run_bind, run_under hK, Instr.findNow, Sem.run_pure]
  unfold setObj
  simp only [Sem.run, hb]
  congr 1
  show { W with heap := (W.heap.push (.map #[] 0)).setIfInBounds W.heap.size _ } = { W with heap := W.heap.push _ }
  rw [last_set]
  rfl
theorem run_lookup1 {K : TypeId} (hT : P.underlying T = some (.map K E)) (hK : P.underlying K = some .string) (W : World) (r : Nat) (s : ByteArray) (v : Value) (hb : W.heap[r]? = some (.map #[⟨.string s, v, 0⟩] 1)) :
    (Instr.lookup T (.map (some r)) (.string s) false).run P W = .ok v W := by
  unfold Instr.lookup
  rw [Sem.run_bind, run_under hT]
  simp only [Result.andThen, Sem.run_bind, run_getObj hb (by simp), Sem.run_pure]
  rw [run_ck hK]
  simp only [Result.andThen, Instr.findKey, Sem.run_bind, run_under hK, Instr.findNow, Instr.sameNow, beq_str, Sem.run_pure]
  rfl
theorem run_range1 {K : TypeId} (hT : P.underlying T = some (.map K E)) (W : World) (r : Nat) (es : Array MapEntry) (c : Nat) (hb : W.heap[r]? = some (.map es c)) :
    (Instr.range T (.map (some r))).run P W = .ok (.pointer (some ⟨W.heap.size, 0, none⟩)) (W.alloc (.mapIter (some r) c #[] c)) := by
  unfold Instr.range
  rw [Sem.run_bind, run_under hT]
  simp only [Result.andThen, Sem.run_bind, run_getObj hb (by simp), Sem.run_pure]
  rfl
theorem run_len1 {K : TypeId} (hT : P.underlying T = some (.map K E)) (I : TypeId) (W : World) (r : Nat) (es : Array MapEntry) (c : Nat) (hb : W.heap[r]? = some (.map es c)) :
    (Builtin.len_ #[T] I #[.map (some r)]).run P W = .ok (.int .i64 (es.size : Int)) W := by
  unfold Builtin.len_
  simp only [List.getElem?_toArray, List.getElem?_cons_zero]
  rw [Sem.run_bind, run_under hT]
  simp only [Result.andThen, Sem.run_bind, run_getObj hb (by simp), Sem.run_pure]
  rfl
theorem heap_old (W : World) (o : Obj) {r : Nat} {x : Obj} (hb : W.heap[r]? = some x) : (W.alloc o).heap[r]? = some x := by
  have hlt : r < W.heap.size := by
    rcases Nat.lt_or_ge r W.heap.size with h | h
    · exact h
    · rw [Array.getElem?_eq_none h] at hb; cases hb
  show (W.heap.push _)[r]? = _
  rw [Array.getElem?_push_lt hlt, ← hb, Array.getElem?_eq_getElem hlt]
theorem run_setObj1 {w : World} {r : Nat} {o o' : Obj} (hr : w.heap[r]? = some o) (hc : ∀ c e f, o ≠ .cells c e f) : (setObj r o').run P w = .ok () { w with heap := w.heap.setIfInBounds r o' } := by
  cases o <;> simp_all [setObj, Sem.run]
/-- The step onto the one entry: the iterator's block is the heap's last but what 'W2' bears. -/
theorem run_next1 (W : World) (ty : TypeId) (r i : Nat) (k v : Value) (hb : W.heap[r]? = some (.map #[⟨k, v, 0⟩] 1)) (hi : W.heap[i]? = some (.mapIter (some r) 1 #[] 1)) :
    (Instr.next (.pointer (some ⟨i, 0, none⟩)) false ty).run P W = .ok (.tuple #[.bool true, k, v]) { W with heap := W.heap.setIfInBounds i (.mapIter (some r) 1 #[0] 1) } := by
  unfold Instr.next
  simp [Sem.run_bind, run_getObj hi (by simp), run_getObj hb (by simp), Result.andThen, choose, Sem.run, Question.forced, run_setObj1 hi]
theorem run_next1_over (W : World) (ty : TypeId) (r i : Nat) (k v : Value) (hb : W.heap[r]? = some (.map #[⟨k, v, 0⟩] 1)) (hi : W.heap[i]? = some (.mapIter (some r) 1 #[0] 1)) :
    (Instr.next (.pointer (some ⟨i, 0, none⟩)) false ty).run P W = .ok (.tuple #[.bool false]) W := by
  unfold Instr.next
  simp [Sem.run_bind, run_getObj hi (by simp), run_getObj hb (by simp), Result.andThen, choose, Sem.run, Question.forced]
theorem run_entry1 (W : World) (r i : Nat) (k v : Value) (hb : W.heap[r]? = some (.map #[⟨k, v, 0⟩] 1)) (hi : W.heap[i]? = some (.mapIter (some r) 1 #[0] 1)) :
    (Instr.entry (.pointer (some ⟨i, 0, none⟩))).run P W = .ok (.tuple #[k, v]) W := by
  unfold Instr.entry
  simp [Sem.run_bind, run_getObj hi (by simp), run_getObj hb (by simp), Result.andThen]
/-- The same two where the iterator is the heap's last block. -/
theorem run_next1_last (W : World) (ty : TypeId) (r : Nat) (k v : Value) (hb : W.heap[r]? = some (.map #[⟨k, v, 0⟩] 1)) :
    (Instr.next (.pointer (some ⟨W.heap.size, 0, none⟩)) false ty).run P (W.alloc (.mapIter (some r) 1 #[] 1)) = .ok (.tuple #[.bool true, k, v]) (W.alloc (.mapIter (some r) 1 #[0] 1)) := by
  have hlt : r < W.heap.size := by
    rcases Nat.lt_or_ge r W.heap.size with h | h
    · exact h
    · rw [Array.getElem?_eq_none h] at hb; cases hb
  have hb' : (W.alloc (.mapIter (some r) 1 #[] 1)).heap[r]? = some (.map #[⟨k, v, 0⟩] 1) := by
    show (W.heap.push _)[r]? = _
    rw [Array.getElem?_push_lt hlt, ← hb, Array.getElem?_eq_getElem hlt]
  rw [run_next1 _ ty r W.heap.size k v hb' (heap_last W _)]
  congr 1
  show { W with heap := (W.heap.push _).setIfInBounds W.heap.size _ } = { W with heap := W.heap.push _ }
  rw [last_set]
theorem run_next1_last_over (W : World) (ty : TypeId) (r : Nat) (k v : Value) (hb : W.heap[r]? = some (.map #[⟨k, v, 0⟩] 1)) :
    (Instr.next (.pointer (some ⟨W.heap.size, 0, none⟩)) false ty).run P (W.alloc (.mapIter (some r) 1 #[0] 1)) = .ok (.tuple #[.bool false]) (W.alloc (.mapIter (some r) 1 #[0] 1)) := by
  have hlt : r < W.heap.size := by
    rcases Nat.lt_or_ge r W.heap.size with h | h
    · exact h
    · rw [Array.getElem?_eq_none h] at hb; cases hb
  have hb' : (W.alloc (.mapIter (some r) 1 #[0] 1)).heap[r]? = some (.map #[⟨k, v, 0⟩] 1) := by
    show (W.heap.push _)[r]? = _
    rw [Array.getElem?_push_lt hlt, ← hb, Array.getElem?_eq_getElem hlt]
  exact run_next1_over _ ty r W.heap.size k v hb' (heap_last W _)
theorem run_entry1_last (W : World) (r : Nat) (k v : Value) (hb : W.heap[r]? = some (.map #[⟨k, v, 0⟩] 1)) :
    (Instr.entry (.pointer (some ⟨W.heap.size, 0, none⟩))).run P (W.alloc (.mapIter (some r) 1 #[0] 1)) = .ok (.tuple #[k, v]) (W.alloc (.mapIter (some r) 1 #[0] 1)) := by
  have hlt : r < W.heap.size := by
    rcases Nat.lt_or_ge r W.heap.size with h | h
    · exact h
    · rw [Array.getElem?_eq_none h] at hb; cases hb
  have hb' : (W.alloc (.mapIter (some r) 1 #[0] 1)).heap[r]? = some (.map #[⟨k, v, 0⟩] 1) := by
    show (W.heap.push _)[r]? = _
    rw [Array.getElem?_push_lt hlt, ← hb, Array.getElem?_eq_getElem hlt]
  exact run_entry1 _ r W.heap.size k v hb' (heap_last W _)
end Go.Proofs.YtfgepnbfideliaaGreatDoor
