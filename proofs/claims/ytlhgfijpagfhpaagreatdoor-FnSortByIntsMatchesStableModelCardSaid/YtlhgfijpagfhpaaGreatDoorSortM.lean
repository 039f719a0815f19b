/- The plain law of symMerge: where it cuts, what the two halves are, and how they join. -/
import Derived.Test.YtlhgfijpagfhpaaGreatDoorSortP
namespace Go.Proofs.YtlhgfijpagfhpaaGreatDoor
theorem rot_id_left {a m b : Nat} (h : a = m) (s : Nat → Nat) (hb : m ≤ b) : rot a m b s = s := by
  subst h; funext k; unfold rot
  by_cases h1 : a ≤ k ∧ k < a + (b - a)
  · rw [if_pos h1, Nat.sub_self, Nat.add_zero]
  · rw [if_neg h1, if_neg (by omega)]
theorem rot_id_right {a m b : Nat} (h : b = m) (s : Nat → Nat) (ha : a ≤ m) : rot a m b s = s := by
  subst h; funext k; unfold rot
  rw [if_neg (by omega)]
  by_cases h1 : a + (b - b) ≤ k ∧ k < b
  · rw [if_pos h1, Nat.sub_self, Nat.sub_zero]
  · rw [if_neg h1]
/-- Where the merge cuts. -/
structure Cut (key : Nat → Int) (s : Nat → Nat) (a m b mid start : Nat) : Prop where
  am : a < m
  mb : m < b
  mid1 : a ≤ mid
  mid2 : mid < b
  st1 : a ≤ start
  st2 : start ≤ m
  st3 : start ≤ mid
  en1 : mid + m ≤ start + b
  l : Srt key s a m
  r : Srt key s m b
  lr : ∀ i j, a ≤ i → i < m → m ≤ j → j < b → s i < s j
  low : ∀ i j, a ≤ i → i < start → mid + m - start ≤ j → j < b → key (s i) ≤ key (s j)
  high : ∀ i j, start ≤ i → i < m → m ≤ j → j < mid + m - start → key (s j) < key (s i)
/-- From the search: start is the first place, from lo to hi, at which the mirrored element is smaller. -/
theorem Cut.of {key : Nat → Int} {s : Nat → Nat} {a m b mid start lo hi : Nat} (am : a < m) (mb : m < b) (hmid : mid = (a + b) / 2) (hlo : lo = if m > mid then mid + m - b else a) (hhi : hi = if m > mid then mid else m)
    (h1 : lo ≤ start) (h2 : start ≤ hi) (l : Srt key s a m) (r : Srt key s m b) (lr : ∀ i j, a ≤ i → i < m → m ≤ j → j < b → s i < s j)
    (q1 : ∀ c, lo ≤ c → c < start → key (s c) ≤ key (s (mid + m - 1 - c))) (q2 : ∀ c, start ≤ c → c < hi → key (s (mid + m - 1 - c)) < key (s c)) : Cut key s a m b mid start := by
  have e : a + b = 2 * mid ∨ a + b = 2 * mid + 1 := by omega
  have hst : a ≤ start ∧ start ≤ m ∧ start ≤ mid ∧ mid + m ≤ start + b := by
    by_cases h : m > mid
    · rw [if_pos h] at hlo hhi; omega
    · rw [if_neg h] at hlo hhi; omega
  obtain ⟨x1, x2, x3, x4⟩ := hst
  refine ⟨am, mb, by omega, by omega, x1, x2, x3, x4, l, r, lr, fun i j hi1 hi2 hj1 hj2 => ?_, fun i j hi1 hi2 hj1 hj2 => ?_⟩
  · by_cases h : m > mid
    · rw [if_pos h] at hlo hhi
      by_cases hs : lo < start
      · have k := q1 (start - 1) (by omega) (by omega)
        have k1 := l.le (i := i) (j := start - 1) hi1 (by omega) (by omega)
        have k2 := r.le (i := mid + m - 1 - (start - 1)) (j := j) (by omega) (by omega) hj2
        omega
      · omega
    · rw [if_neg h] at hlo hhi
      have k := q1 (start - 1) (by omega) (by omega)
      have k1 := l.le (i := i) (j := start - 1) hi1 (by omega) (by omega)
      have k2 := r.le (i := mid + m - 1 - (start - 1)) (j := j) (by omega) (by omega) hj2
      omega
  · have hsh : start < hi := by
      by_cases h : m > mid
      · rw [if_pos h] at hlo hhi; omega
      · rw [if_neg h] at hlo hhi; omega
    have k := q2 start (Nat.le_refl _) hsh
    have k1 := l.le (i := start) (j := i) (by omega) hi1 hi2
    have k2 := r.le (i := j) (j := mid + m - 1 - start) hj1 (by omega) (by omega)
    omega
section
variable {key : Nat → Int} {s : Nat → Nat} {a m b mid start : Nat} (C : Cut key s a m b mid start)
include C
/-- The cut laid: the four pieces. -/
theorem Cut.p1 {k : Nat} (h : k < start) : rot start m (mid + m - start) s k = s k := by
  have := C.st2; have := C.st3
  unfold rot; rw [if_neg (by omega), if_neg (by omega)]
theorem Cut.p2 {k : Nat} (h1 : start ≤ k) (h2 : k < mid) : rot start m (mid + m - start) s k = s (k + (m - start)) := by
  have := C.st2; have := C.st3
  unfold rot; rw [if_pos (by omega)]
theorem Cut.p3 {k : Nat} (h1 : mid ≤ k) (h2 : k < mid + m - start) : rot start m (mid + m - start) s k = s (k - (mid - start)) := by
  have := C.st2; have := C.st3
  unfold rot; rw [if_neg (by omega), if_pos (by omega)]; congr 1; omega
theorem Cut.p4 {k : Nat} (h : mid + m - start ≤ k) : rot start m (mid + m - start) s k = s k := by
  have := C.st2; have := C.st3
  unfold rot; rw [if_neg (by omega), if_neg (by omega)]
theorem Cut.l1 : Srt key (rot start m (mid + m - start) s) a start := fun i j h1 h2 h3 => by
  have := C.st2; have := C.st3
  rw [C.p1 (by omega), C.p1 h3]; exact C.l i j h1 h2 (by omega)
theorem Cut.l2 : Srt key (rot start m (mid + m - start) s) start mid := fun i j h1 h2 h3 => by
  have := C.st2; have := C.st3; have := C.en1
  rw [C.p2 h1 (by omega), C.p2 (by omega) h3]; exact C.r _ _ (by omega) (by omega) (by omega)
theorem Cut.l12 : ∀ i j, a ≤ i → i < start → start ≤ j → j < mid → rot start m (mid + m - start) s i < rot start m (mid + m - start) s j := fun i j h1 h2 h3 h4 => by
  have := C.st2; have := C.st3; have := C.en1
  rw [C.p1 h2, C.p2 h3 h4]; exact C.lr _ _ h1 (by omega) (by omega) (by omega)
theorem Cut.r1 : Srt key (rot start m (mid + m - start) s) mid (mid + m - start) := fun i j h1 h2 h3 => by
  have := C.st1; have := C.st2; have := C.st3
  rw [C.p3 h1 (by omega), C.p3 (by omega) h3]; exact C.l _ _ (by omega) (by omega) (by omega)
theorem Cut.r2 : Srt key (rot start m (mid + m - start) s) (mid + m - start) b := fun i j h1 h2 h3 => by
  have := C.st2; have := C.st3; have := C.en1
  rw [C.p4 h1, C.p4 (by omega)]; exact C.r _ _ (by omega) (by omega) (by omega)
theorem Cut.r12 : ∀ i j, mid ≤ i → i < mid + m - start → mid + m - start ≤ j → j < b → rot start m (mid + m - start) s i < rot start m (mid + m - start) s j := fun i j h1 h2 h3 h4 => by
  have := C.st1; have := C.st2; have := C.st3; have := C.en1
  rw [C.p3 h1 h2, C.p4 h3]; exact C.lr _ _ (by omega) (by omega) (by omega) (by omega)
theorem Cut.x : ∀ i j, a ≤ i → i < mid → mid ≤ j → j < b → bef key (rot start m (mid + m - start) s i) (rot start m (mid + m - start) s j) := fun i j h1 h2 h3 h4 => by
  have := C.st1; have := C.st2; have := C.st3; have := C.en1; have := C.am; have := C.mb
  by_cases x1 : i < start
  · rw [C.p1 x1]
    by_cases x2 : j < mid + m - start
    · rw [C.p3 h3 x2]; exact C.l _ _ h1 (by omega) (by omega)
    · rw [C.p4 (by omega)]
      have k := C.low i j h1 x1 (by omega) h4
      have k2 := C.lr i j h1 (by omega) (by omega) h4
      unfold bef; omega
  · rw [C.p2 (by omega) h2]
    by_cases x2 : j < mid + m - start
    · rw [C.p3 h3 x2]; exact Or.inl (C.high _ _ (by omega) (by omega) (by omega) (by omega))
    · rw [C.p4 (by omega)]; exact C.r _ _ (by omega) (by omega) (by omega)
theorem Cut.re : Re a b s (rot start m (mid + m - start) s) := by
  have := C.st1; have := C.st2; have := C.st3; have := C.en1
  exact (Re.rot (by omega) (by omega) s).mono (by omega) (by omega)
/-- The halves, each sorted, joined. -/
theorem Cut.join {u v : Nat → Nat} (h1 : Re a mid (rot start m (mid + m - start) s) u) (h2 : Srt key u a mid) (h3 : Re mid b u v) (h4 : Srt key v mid b) : Re a b s v ∧ Srt key v a b := by
  have := C.mid1; have := C.mid2
  refine ⟨(C.re.trans (h1.mono (Nat.le_refl _) (by omega))).trans (h3.mono (by omega) (Nat.le_refl _)), fun i j x1 x2 x3 => ?_⟩
  have xx : ∀ i j, a ≤ i → i < mid → mid ≤ j → j < b → bef key (v i) (v j) := fun i j x1 x2 x3 x4 => by
    obtain ⟨j', y1, y2, y3⟩ := h3.inn x3 x4
    rw [h3.out (by omega), y3, h1.out (i := j') (by omega)]
    obtain ⟨i', z1, z2, z3⟩ := h1.inn x1 x2
    rw [z3]; exact C.x i' j' z1 z2 y1 y2
  by_cases c1 : j < mid
  · rw [h3.out (by omega), h3.out (by omega)]; exact h2 i j x1 x2 c1
  · by_cases c2 : mid ≤ i
    · exact h4 i j c2 x2 x3
    · exact xx i j x1 (by omega) (by omega) x3
/-- If one of the halves' cuts is at its edge, the half is sorted as it stands. -/
theorem Cut.left_edge (h : ¬ (a < start ∧ start < mid)) : Srt key (rot start m (mid + m - start) s) a mid := by
  have := C.st1; have := C.st3
  by_cases h1 : a < start
  · have : start = mid := by omega
    have k := C.l1; rw [this] at k ⊢; exact k
  · have : start = a := by omega
    have k := C.l2; rw [this] at k ⊢; exact k
theorem Cut.right_edge (h : ¬ (mid < mid + m - start ∧ mid + m - start < b)) : Srt key (rot start m (mid + m - start) s) mid b := by
  have := C.st2; have := C.en1
  by_cases h1 : mid < mid + m - start
  · have e : mid + m - start = b := by omega
    have k := C.r1; rw [e] at k ⊢; exact k
  · have e : mid + m - start = mid := by omega
    have k := C.r2; rw [e] at k ⊢; exact k
/-- The right half behind the left one's merge. -/
theorem Cut.right_edge' {u : Nat → Nat} (hu : Re a mid (rot start m (mid + m - start) s) u ∧ Srt key u a mid) (h : ¬ (mid < mid + m - start ∧ mid + m - start < b)) : Srt key u mid b :=
  (C.right_edge h).congr fun i h1 h2 => hu.1.out (by omega)
theorem Cut.rr1 {u : Nat → Nat} (hu : Re a mid (rot start m (mid + m - start) s) u ∧ Srt key u a mid) : Srt key u mid (mid + m - start) :=
  C.r1.congr fun i h1 h2 => hu.1.out (by omega)
theorem Cut.rr2 {u : Nat → Nat} (hu : Re a mid (rot start m (mid + m - start) s) u ∧ Srt key u a mid) : Srt key u (mid + m - start) b :=
  C.r2.congr fun i h1 h2 => hu.1.out (by have := C.st2; omega)
theorem Cut.rr12 {u : Nat → Nat} (hu : Re a mid (rot start m (mid + m - start) s) u ∧ Srt key u a mid) : ∀ i j, mid ≤ i → i < mid + m - start → mid + m - start ≤ j → j < b → u i < u j := fun i j h1 h2 h3 h4 => by
  have := C.st2
  rw [hu.1.out (i := i) (by omega), hu.1.out (i := j) (by omega)]; exact C.r12 i j h1 h2 h3 h4
end
end Go.Proofs.YtlhgfijpagfhpaaGreatDoor
