/- The row of a sort as positions: from the kit's sort worlds to plain functions; what less and swap answer. -/
import Derived.Test.YtlhgfijpagfhpaaGreatDoorSortP
import Derived.Test.YtlhgfijpagfhpaaGreatDoorProg
import Derived.Shelf.GgSortMore.Stable
namespace Go.Proofs.YtlhgfijpagfhpaaGreatDoor
open Go.Shelf Go.RowKit Go.Lib Go.Sort
/-- The row of length n that holds s. -/
def arr (n : Nat) (s : Nat → Nat) : Array Nat := Array.ofFn fun i : Fin n => s i
theorem arr_size (n : Nat) (s : Nat → Nat) : (arr n s).size = n := by simp [arr]
theorem arr_get {n k : Nat} (s : Nat → Nat) (h : k < n) : (arr n s)[k]! = s k := by
  rw [getElem!_pos _ k (by rw [arr_size]; exact h)]; simp [arr]
theorem arr_ext {n : Nat} {s : Nat → Nat} {d : Array Nat} (hd : d.size = n) (h : ∀ k, k < n → d[k]! = s k) : d = arr n s := by
  apply Array.ext
  · rw [arr_size, hd]
  · intro k h1 h2
    have a := h k (by omega)
    rw [getElem!_pos _ k h1] at a
    rw [a]; simp [arr]
theorem arr_congr {n : Nat} {s t : Nat → Nat} (h : ∀ k, k < n → s k = t k) : arr n s = arr n t := arr_ext (arr_size _ _) fun k hk => by rw [arr_get s hk, h k hk]
theorem swp_arr {n i j : Nat} (s : Nat → Nat) (hi : i < n) (hj : j < n) : swp (arr n s) i j = arr n (sw i j s) :=
  arr_ext (by rw [size_swp, arr_size]) fun k hk => by
    unfold sw
    by_cases h1 : k = j
    · rw [if_pos h1, h1, swp_right _ _ _ (by rw [arr_size]; exact hj), arr_get s hi]
    · rw [if_neg h1]
      by_cases h2 : k = i
      · rw [if_pos h2, h2, swp_left _ _ _ (by rw [arr_size]; exact hi) (by omega), arr_get s hj]
      · rw [if_neg h2, swp_other _ _ _ _ h2 h1, arr_get s hk]
/-- Smaller by key. -/
def ltk (key : Nat → Int) (x y : Nat) : Bool := decide (key x < key y)
/-- The insertion sort, one element. -/
theorem insInner_arr {n a i : Nat} (key : Nat → Int) (t : Nat → Nat) (hi : i < n) : ∀ j, a ≤ j → j ≤ i → (∀ k, j ≤ k → k < i → key (t i) < key (t k)) →
    ∃ j', a ≤ j' ∧ j' ≤ j ∧ insInner (ltk key) a j (arr n (ins j i t)) = arr n (ins j' i t) ∧ (∀ k, j' ≤ k → k < i → key (t i) < key (t k)) ∧ (j' = a ∨ key (t (j' - 1)) ≤ key (t i))
  | 0, h1, h2, hk => ⟨0, h1, Nat.le_refl _, insInner_stop _ _ _ _ (Or.inl (Nat.zero_le _)), hk, Or.inl (by omega)⟩
  | j + 1, h1, h2, hk => by
    have e1 : (arr n (ins (j + 1) i t))[j + 1]! = t i := by rw [arr_get _ (by omega)]; unfold ins; rw [if_pos rfl]
    have e2 : (arr n (ins (j + 1) i t))[j + 1 - 1]! = t j := by rw [arr_get _ (by omega)]; unfold ins; rw [if_neg (by omega), if_neg (by omega), Nat.add_sub_cancel]
    by_cases ha : a < j + 1
    · by_cases hl : key (t i) < key (t j)
      · rw [insInner_go _ _ _ _ ha (by rw [e1, e2]; exact decide_eq_true hl), swp_arr _ (show j + 1 < n by omega) (show j + 1 - 1 < n by omega), ins_step (show 0 < j + 1 by omega) h2, Nat.add_sub_cancel]
        obtain ⟨j', x1, x2, x3, x4, x5⟩ := insInner_arr (a := a) key t hi j (by omega) (by omega) (fun k y1 y2 => by
          by_cases hkj : k = j
          · rw [hkj]; exact hl
          · exact hk k (by omega) y2)
        exact ⟨j', x1, by omega, x3, x4, x5⟩
      · exact ⟨j + 1, h1, Nat.le_refl _, insInner_stop _ _ _ _ (Or.inr (by rw [e1, e2]; exact decide_eq_false hl)), hk, Or.inr (by rw [Nat.add_sub_cancel]; omega)⟩
    · exact ⟨j + 1, h1, Nat.le_refl _, insInner_stop _ _ _ _ (Or.inl (by omega)), hk, Or.inl (by omega)⟩
theorem insOuter_arr {n a b : Nat} (key : Nat → Int) (s : Nat → Nat) (hb : b ≤ n) (hs : ∀ i j, a ≤ i → i < j → j < b → s i < s j) : ∀ m i t, b - i = m → a < i → i ≤ b → Re a i s t → (∀ k, i ≤ k → t k = s k) → Srt key t a i →
    ∃ t', insOuter (ltk key) a b i (arr n t) = arr n t' ∧ Re a b s t' ∧ Srt key t' a b
  | 0, i, t, hm, hai, hib, hr, ho, hs' => ⟨t, insOuter_stop _ _ _ _ _ (by omega), hr.mono (Nat.le_refl _) hib, by rw [show b = i by omega]; exact hs'⟩
  | m + 1, i, t, hm, hai, hib, hr, ho, hs' => by
    have hib' : i < b := by omega
    rw [insOuter_go _ _ _ _ _ hib']
    obtain ⟨j', x1, x2, x3, x4, x5⟩ := insInner_arr (n := n) (a := a) key t (show i < n by omega) i (by omega) (Nat.le_refl _) (fun k y1 y2 => by omega)
    rw [ins_self] at x3
    rw [x3]
    have hlt : ∀ k, a ≤ k → k < i → t k < t i := fun k y1 y2 => by
      obtain ⟨j, z1, z2, z3⟩ := hr.inn y1 y2
      rw [z3, ho i (Nat.le_refl _)]; exact hs j i z1 z2 hib'
    refine insOuter_arr key s hb hs m (i + 1) (ins j' i t) (by omega) (by omega) (by omega) ?_ ?_ ?_
    · exact (hr.mono (Nat.le_refl _) (by omega)).trans (Re.ins t x1 (by omega) (by omega))
    · intro k hk; unfold ins; rw [if_neg (by omega), if_neg (by omega)]; exact ho k (by omega)
    · refine ins_srt hs' x1 x2 (fun k y1 y2 => ?_) (fun k y1 y2 => Or.inl (x4 k y1 y2))
      have l := hs'.le (i := k) (j := j' - 1) y1 (by omega) (by omega)
      have := hlt k y1 (by omega)
      unfold bef; omega
theorem insertion_arr {n a b : Nat} (key : Nat → Int) (s : Nat → Nat) (hab : a ≤ b) (hb : b ≤ n) (hs : ∀ i j, a ≤ i → i < j → j < b → s i < s j) :
    ∃ t, Sort.insertionSort (ltk key) (arr n s) a b = arr n t ∧ Re a b s t ∧ Srt key t a b := by
  by_cases h : a < b
  · exact insOuter_arr key s hb hs _ (a + 1) s rfl (by omega) (by omega) (Re.refl _ _ _) (fun _ _ => rfl) (fun i j h1 h2 h3 => by omega)
  · refine ⟨s, insOuter_stop _ _ _ _ _ (by omega), Re.refl _ _ _, fun i j h1 h2 h3 => by omega⟩
section
variable {P : Program} {enc : Nat → Value} {w0 W0 W W' : World} {blk off n : Nat}
theorem SW.trans' {d' d'' : Array Nat} (hblk : blk < w0.heap.size) (h : SW enc w0 blk off d' W) (k : SW enc W blk off d'' W') (hs : d''.size = d'.size) : SW enc w0 blk off d'' W' := by
  obtain ⟨m, os, rfl⟩ := k
  exact h.on hblk m d'' os hs
theorem SW.cell {d : Array Nat} (h : SW enc w0 blk off d W) {a : Addr} (hb : a.block < w0.heap.size) (hne : a.block ≠ blk) : W.cell? a = w0.cell? a := by
  obtain ⟨m, os, rfl⟩ := h
  unfold sortWorld
  rw [cell?_grow _ _ _ (by rw [size_putRow]; exact hb), cell?_putRow_other enc _ blk off _ _ (Or.inl hne)]
  rfl
theorem SW.ofAlloc {d : Array Nat} {o : Obj} (hblk : blk < w0.heap.size) (h : SW enc (w0.alloc o) blk off d W) : SW enc w0 blk off d W := by
  obtain ⟨m, os, rfl⟩ := h
  exact ⟨m, _, sortWorld_alloc enc w0 o blk off m d os hblk⟩
/-- What a sort is given: less by the keys, swap, a row of n cells. -/
structure Sorts (P : Program) (g : Nat) (lb : Array Value) (sf : Nat) (sb : Array Value) (enc : Nat → Value) (key : Nat → Int) (blk off n : Nat) (w0 : World) : Prop where
  eg : ∀ args w, (callFunc g args).run P w = .ok (.enter g args) w
  less : LessReads P g lb enc (ltk key) blk off n w0
  swap : SwapSwaps P sf sb enc blk off n
  blk : blk < w0.heap.size
  small : n < 4611686018427387904
variable {g sf : Nat} {lb sb : Array Value} {key : Nat → Int}
theorem Sorts.on (S : Sorts P g lb sf sb enc key blk off n w0) {s : Nat → Nat} (h : SW enc w0 blk off (arr n s) W) : Sorts P g lb sf sb enc key blk off n W :=
  ⟨S.eg, h.lessReads S.less S.blk (arr_size _ _), S.swap, h.lt S.blk, S.small⟩
theorem Sorts.holds (S : Sorts P g lb sf sb enc key blk off n w0) {s t : Nat → Nat} (hH : Holds enc w0 blk off (arr n s)) (h : SW enc w0 blk off (arr n t) W) : Holds enc W blk off (arr n t) :=
  h.holds S.blk hH (by rw [arr_size, arr_size])
/-- less at two places. -/
theorem Sorts.lessAt (S : Sorts P g lb sf sb enc key blk off n w0) {s : Nat → Nat} (h : SW enc w0 blk off (arr n s) W) {i j : Int} (x y : Nat) (hx : i = x) (hy : j = y) (hi : x < n) (hj : y < n) :
    Calls P g (#[.int .i64 i, .int .i64 j] ++ lb) W fun e w' => e = .returned (.bool (decide (key (s x) < key (s y)))) ∧ ∃ q, w' = W.drewN q := by
  subst hx; subst hy
  have := h.less S.less (arr_size _ _) x y hi hj
  rw [arr_get s hi, arr_get s hj] at this
  exact this
/-- swap of two places: the world behind it. -/
theorem Sorts.swapAt (S : Sorts P g lb sf sb enc key blk off n w0) {s0 s : Nat → Nat} (hH : Holds enc w0 blk off (arr n s0)) (h : SW enc w0 blk off (arr n s) W) {i j : Int} (x y : Nat) (hx : i = x) (hy : j = y) (hi : x < n) (hj : y < n) :
    ∃ W2, (callFunc sf (#[.int .i64 i, .int .i64 j] ++ sb)).run P W = .ok (.value (.tuple #[])) W2 ∧ SW enc w0 blk off (arr n (sw x y s)) W2 := by
  subst hx; subst hy
  refine ⟨_, S.swap W (arr n s) (S.holds hH h) (arr_size _ _) x y hi hj, ?_⟩
  rw [← swp_arr s hi hj]
  exact h.swap S.blk x y (by rw [arr_size]; exact hi) (by rw [arr_size]; exact hj)
/-- A function of the family boxes what it sorts with: the world behind that. -/
structure Boxed (P : Program) (g : Nat) (lb : Array Value) (sf : Nat) (sb : Array Value) (enc : Nat → Value) (key : Nat → Int) (blk off n : Nat) (W W1 : World) (s : Nat → Nat) : Prop where
  S : Sorts P g lb sf sb enc key blk off n W1
  H : Holds enc W1 blk off (arr n s)
  start : SW enc W1 blk off (arr n s) W1
  back : ∀ d w, SW enc W1 blk off d w → SW enc W blk off d w
  c0 : ∀ d w, SW enc W1 blk off d w → w.cell? ⟨W.heap.size, 0, none⟩ = some (.func (.func g) #[] lb)
  c1 : ∀ d w, SW enc W1 blk off d w → w.cell? ⟨W.heap.size, 1, none⟩ = some (.func (.func sf) #[] sb)
theorem Sorts.box (S : Sorts P g lb sf sb enc key blk off n W) {s : Nat → Nat} (hH : Holds enc W blk off (arr n s)) (t : TypeId) : Boxed P g lb sf sb enc key blk off n W (W.alloc (.cells #[.func (.func g) #[] lb, .func (.func sf) #[] sb] t)) s := by
  have h1 : SW enc W blk off (arr n s) (W.alloc (.cells #[.func (.func g) #[] lb, .func (.func sf) #[] sb] t)) := (SW.start hH).alloc _
  have hb := S.blk
  exact ⟨S.on h1, S.holds hH h1, SW.start (S.holds hH h1), fun d w h => SW.ofAlloc S.blk h,
    fun d w h => by rw [SW.cell h (by simp) (by show W.heap.size ≠ blk; omega)]; simp, fun d w h => by rw [SW.cell h (by simp) (by show W.heap.size ≠ blk; omega)]; simp⟩
/-- A callee's work, in the caller's terms. -/
theorem Boxed.call {W1 : World} {s t u : Nat → Nat} (B : Boxed P g lb sf sb enc key blk off n W0 W1 s) (h : SW enc W1 blk off (arr n t) W) (k : SW enc W blk off (arr n u) W') : SW enc W1 blk off (arr n u) W' :=
  SW.trans' B.S.blk h k (by rw [arr_size, arr_size])
end
end Go.Proofs.YtlhgfijpagfhpaaGreatDoor
