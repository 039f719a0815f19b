/- The plain law of stable_func: blocks, pair by pair. -/
import Derived.Test.YtlhgfijpagfhpaaGreatDoorSortP
namespace Go.Proofs.YtlhgfijpagfhpaaGreatDoor
set_option linter.unusedVariables false
set_option linter.unusedSectionVars false
/-- Every block of d places holds what it held, sorted. -/
structure Blk (key : Nat → Int) (n d : Nat) (t : Nat → Nat) : Prop where
  s : ∀ i, i < n → t i / d = i / d
  o : ∀ i j, i < j → j < n → i / d = j / d → bef key (t i) (t j)
/-- The first blocks, of 20: up to a they are sorted. -/
structure Ini (key : Nat → Int) (n a : Nat) (t : Nat → Nat) : Prop where
  re : Re 0 n id t
  s : ∀ i, i < n → t i / 20 = i / 20
  o : ∀ i j, i < j → j < a → i / 20 = j / 20 → bef key (t i) (t j)
  r : ∀ k, a ≤ k → t k = k
theorem Ini.start (key : Nat → Int) (n : Nat) : Ini key n 0 id := ⟨Re.refl _ _ _, fun _ _ => rfl, fun i j _ h => by omega, fun _ _ => rfl⟩
theorem Ini.step {key : Nat → Int} {n q e : Nat} {t u : Nat → Nat} (h : Ini key n (20 * q) t) (h0 : 20 * q ≤ e) (he : e ≤ 20 * q + 20) (hn : e ≤ n) (hr : Re (20 * q) e t u) (hs : Srt key u (20 * q) e) : Ini key n e u := by
  refine ⟨h.re.trans (hr.mono (Nat.zero_le _) hn), fun i hi => ?_, fun i j h1 h2 h3 => ?_, fun k hk => ?_⟩
  · by_cases c : 20 * q ≤ i ∧ i < e
    · obtain ⟨j, j1, j2, j3⟩ := hr.inn c.1 c.2
      rw [j3, h.s j (by omega)]; omega
    · rw [hr.out c]; exact h.s i hi
  · by_cases c : 20 * q ≤ j
    · exact hs i j (by omega) h1 h2
    · rw [hr.out (by omega), hr.out (by omega)]; exact h.o i j h1 (by omega) h3
  · rw [hr.out (by omega)]
    exact h.r k (by omega)
/-- d places and d places are merged: up to a it is done. -/
structure Mid (key : Nat → Int) (n d q : Nat) (t : Nat → Nat) : Prop where
  re : Re 0 n id t
  s : ∀ i, i < n → t i / (2 * d) = i / (2 * d)
  o : ∀ i j, i < j → j < 2 * d * q → i / (2 * d) = j / (2 * d) → bef key (t i) (t j)
  s' : ∀ i, 2 * d * q ≤ i → i < n → t i / d = i / d
  o' : ∀ i j, 2 * d * q ≤ i → i < j → j < n → i / d = j / d → bef key (t i) (t j)
theorem in_block {d q i : Nat} (h1 : d * q ≤ i) (h2 : i < d * q + d) : i / d = q :=
  Nat.div_eq_of_lt_le (by rw [Nat.mul_comm]; exact h1) (by rw [Nat.add_mul, Nat.one_mul, Nat.mul_comm q d]; exact h2)
theorem of_block {d q i : Nat} (h : i / d = q) : d * q ≤ i := by
  have := Nat.mul_div_le i d
  rw [h] at this; exact this
theorem Mid.start {key : Nat → Int} {n d : Nat} {t : Nat → Nat} (hr : Re 0 n id t) (h : Blk key n d t) : Mid key n d 0 t := by
  refine ⟨hr, fun i hi => ?_, fun i j _ h2 => by omega, fun i _ h2 => h.s i h2, fun i j _ h2 h3 h4 => h.o i j h2 h3 h4⟩
  rw [Nat.mul_comm, ← Nat.div_div_eq_div_mul, ← Nat.div_div_eq_div_mul, h.s i hi]
section
variable {key : Nat → Int} {n d q : Nat} {t : Nat → Nat} (M : Mid key n d q t) (hd : 0 < d)
include M hd
theorem Mid.in2 {i : Nat} (h1 : 2 * d * q ≤ i) (h2 : i < 2 * d * q + d) : i / d = 2 * q :=
  in_block (by rw [← Nat.mul_assoc, Nat.mul_comm d 2]; exact h1) (by rw [← Nat.mul_assoc, Nat.mul_comm d 2]; exact h2)
theorem Mid.in3 {i : Nat} (h1 : 2 * d * q + d ≤ i) (h2 : i < 2 * d * q + 2 * d) : i / d = 2 * q + 1 :=
  in_block (by rw [Nat.mul_add, Nat.mul_one, ← Nat.mul_assoc, Nat.mul_comm d 2]; exact h1) (by rw [Nat.mul_add, Nat.mul_one, ← Nat.mul_assoc, Nat.mul_comm d 2]; omega)
theorem Mid.l {e : Nat} (he : e ≤ 2 * d * q + d) (hn : e ≤ n) : Srt key t (2 * d * q) e := fun i j h1 h2 h3 =>
  M.o' i j h1 h2 (by omega) (by rw [M.in2 hd h1 (by omega), M.in2 hd (by omega) (by omega)])
theorem Mid.r {e : Nat} (he : e ≤ 2 * d * q + 2 * d) (hn : e ≤ n) : Srt key t (2 * d * q + d) e := fun i j h1 h2 h3 =>
  M.o' i j (by omega) h2 (by omega) (by rw [M.in3 hd h1 (by omega), M.in3 hd (by omega) (by omega)])
theorem Mid.lr {e : Nat} (he : e ≤ 2 * d * q + 2 * d) (hn : e ≤ n) : ∀ i j, 2 * d * q ≤ i → i < 2 * d * q + d → 2 * d * q + d ≤ j → j < e → t i < t j := fun i j h1 h2 h3 h4 => by
  have a := M.s' i h1 (by omega)
  have b := M.s' j (by omega) (by omega)
  rw [M.in2 hd h1 h2] at a
  rw [M.in3 hd h3 (by omega)] at b
  apply Classical.byContradiction
  intro hn
  have := Nat.div_le_div_right (c := d) (show t j ≤ t i by omega)
  omega
theorem Mid.step {e : Nat} {u : Nat → Nat} (he : e = 2 * d * q + 2 * d) (hn : e ≤ n) (hr : Re (2 * d * q) e t u) (hs : Srt key u (2 * d * q) e) : Mid key n d (q + 1) u := by
  have e1 : 2 * d * (q + 1) = e := by rw [Nat.mul_add, Nat.mul_one, he]
  refine ⟨M.re.trans (hr.mono (Nat.zero_le _) hn), fun i hi => ?_, fun i j h1 h2 h3 => ?_, fun i h1 h2 => ?_, fun i j h1 h2 h3 h4 => ?_⟩
  · by_cases c : 2 * d * q ≤ i ∧ i < e
    · obtain ⟨j, j1, j2, j3⟩ := hr.inn c.1 c.2
      rw [j3, M.s j (by omega), in_block j1 (by omega), in_block c.1 (by omega)]
    · rw [hr.out c]; exact M.s i hi
  · rw [e1] at h2
    by_cases c : 2 * d * q ≤ j
    · exact hs i j (of_block (by rw [h3]; exact in_block c (by omega))) h1 h2
    · rw [hr.out (by omega), hr.out (by omega)]; exact M.o i j h1 (by omega) h3
  · rw [hr.out (by omega)]; exact M.s' i (by omega) h2
  · rw [hr.out (by omega), hr.out (by omega)]; exact M.o' i j (by omega) h2 h3 h4
theorem Mid.last {u : Nat → Nat} (hq : 2 * d * q ≤ n) (hn : n ≤ 2 * d * q + 2 * d) (hr : Re (2 * d * q) n t u) (hs : Srt key u (2 * d * q) n) : Re 0 n id u ∧ Blk key n (2 * d) u := by
  refine ⟨M.re.trans (hr.mono (Nat.zero_le _) (Nat.le_refl _)), fun i hi => ?_, fun i j h1 h2 h3 => ?_⟩
  · by_cases c : 2 * d * q ≤ i
    · obtain ⟨j, j1, j2, j3⟩ := hr.inn c hi
      rw [j3, M.s j j2, in_block j1 (by omega), in_block c (by omega)]
    · rw [hr.out (by omega)]; exact M.s i hi
  · by_cases c : 2 * d * q ≤ j
    · exact hs i j (of_block (by rw [h3]; exact in_block c (by omega))) h1 h2
    · rw [hr.out (by omega), hr.out (by omega)]; exact M.o i j h1 (by omega) h3
end
/-- The same, told by the place. -/
def MidA (key : Nat → Int) (n d A : Nat) (t : Nat → Nat) : Prop := ∃ q, A = 2 * d * q ∧ Mid key n d q t
section
variable {key : Nat → Int} {n d A : Nat} {t : Nat → Nat}
theorem MidA.start (hr : Re 0 n id t) (h : Blk key n d t) : MidA key n d 0 t := ⟨0, rfl, Mid.start hr h⟩
theorem MidA.l (h : MidA key n d A t) (hd : 0 < d) {e : Nat} (he : e ≤ A + d) (hn : e ≤ n) : Srt key t A e := by obtain ⟨q, rfl, M⟩ := h; exact M.l hd he hn
theorem MidA.r (h : MidA key n d A t) (hd : 0 < d) {e : Nat} (he : e ≤ A + 2 * d) (hn : e ≤ n) : Srt key t (A + d) e := by obtain ⟨q, rfl, M⟩ := h; exact M.r hd he hn
theorem MidA.lr (h : MidA key n d A t) (hd : 0 < d) {e : Nat} (he : e ≤ A + 2 * d) (hn : e ≤ n) : ∀ i j, A ≤ i → i < A + d → A + d ≤ j → j < e → t i < t j := by obtain ⟨q, rfl, M⟩ := h; exact M.lr hd he hn
theorem MidA.step (h : MidA key n d A t) (hd : 0 < d) {u : Nat → Nat} (hn : A + 2 * d ≤ n) (hr : Re A (A + 2 * d) t u) (hs : Srt key u A (A + 2 * d)) : MidA key n d (A + 2 * d) u := by
  obtain ⟨q, rfl, M⟩ := h; exact ⟨q + 1, by rw [Nat.mul_add, Nat.mul_one], M.step hd rfl hn hr hs⟩
theorem MidA.last (h : MidA key n d A t) (hd : 0 < d) {u : Nat → Nat} (hq : A ≤ n) (hn : n ≤ A + 2 * d) (hr : Re A n t u) (hs : Srt key u A n) : Re 0 n id u ∧ Blk key n (2 * d) u := by obtain ⟨q, rfl, M⟩ := h; exact M.last hd hq hn hr hs
end
theorem Ini.blk {key : Nat → Int} {n a : Nat} {t : Nat → Nat} (h : Ini key n a t) (ha : n ≤ a) : Blk key n 20 t := ⟨h.s, fun i j h1 h2 h3 => h.o i j h1 (by omega) h3⟩
theorem Blk.all {key : Nat → Int} {n d : Nat} {t : Nat → Nat} (h : Blk key n d t) (hd : n ≤ d) : Srt key t 0 n := fun i j _ h2 h3 => h.o i j h2 h3 (by rw [Nat.div_eq_of_lt (by omega), Nat.div_eq_of_lt (by omega)])
end Go.Proofs.YtlhgfijpagfhpaaGreatDoor
