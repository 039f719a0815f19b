/- Plain facts on stable sorting by positions: s gives, at each position, the place from which the element came. No program here. -/
namespace Go.Proofs.YtfgepnbfideliaaGreatDoor
/-- x comes before y: a smaller key, or the same key and an earlier place. -/
def bef (key : Nat → Int) (x y : Nat) : Prop := key x < key y ∨ (key x = key y ∧ x < y)
theorem bef_trans {key : Nat → Int} {x y z : Nat} (h : bef key x y) (k : bef key y z) : bef key x z := by
  unfold bef at *; omega
theorem bef_le {key : Nat → Int} {x y : Nat} (h : bef key x y) : key x ≤ key y := by unfold bef at h; omega
def Srt (key : Nat → Int) (s : Nat → Nat) (a b : Nat) : Prop := ∀ i j, a ≤ i → i < j → j < b → bef key (s i) (s j)
theorem Srt.sub {key : Nat → Int} {s : Nat → Nat} {a b c d : Nat} (h : Srt key s a b) (h1 : a ≤ c) (h2 : d ≤ b) : Srt key s c d := fun i j x y z => h i j (by omega) y (by omega)
theorem Srt.le {key : Nat → Int} {s : Nat → Nat} {a b i j : Nat} (h : Srt key s a b) (h1 : a ≤ i) (h2 : i ≤ j) (h3 : j < b) : key (s i) ≤ key (s j) := by
  rcases Nat.lt_or_ge i j with k | k
  · exact bef_le (h i j h1 k h3)
  · have : i = j := by omega
    rw [this]; omega
theorem Srt.congr {key : Nat → Int} {s t : Nat → Nat} {a b : Nat} (h : Srt key s a b) (e : ∀ i, a ≤ i → i < b → t i = s i) : Srt key t a b := fun i j x y z => by
  rw [e i x (by omega), e j (by omega) z]; exact h i j x y z
/-- t is s rearranged within [a, b). -/
def Re (a b : Nat) (s t : Nat → Nat) : Prop := ∃ f g : Nat → Nat, (∀ i, f (g i) = i) ∧ (∀ i, g (f i) = i) ∧ (∀ i, ¬ (a ≤ i ∧ i < b) → f i = i) ∧ ∀ i, t i = s (f i)
theorem Re.refl (a b : Nat) (s : Nat → Nat) : Re a b s s := ⟨id, id, fun _ => rfl, fun _ => rfl, fun _ _ => rfl, fun _ => rfl⟩
theorem Re.trans {a b : Nat} {s t u : Nat → Nat} (h : Re a b s t) (k : Re a b t u) : Re a b s u := by
  obtain ⟨f, g, h1, h2, h3, h4⟩ := h
  obtain ⟨f', g', k1, k2, k3, k4⟩ := k
  exact ⟨fun i => f (f' i), fun i => g' (g i), fun i => by show f (f' (g' (g i))) = i; rw [k1, h1], fun i => by show g' (g (f (f' i))) = i; rw [h2, k2], fun i hi => by show f (f' i) = i; rw [k3 i hi, h3 i hi], fun i => by rw [k4, h4]⟩
theorem Re.mono {a b c d : Nat} {s t : Nat → Nat} (h : Re a b s t) (h1 : c ≤ a) (h2 : b ≤ d) : Re c d s t := by
  obtain ⟨f, g, x, y, z, u⟩ := h
  exact ⟨f, g, x, y, fun i hi => z i (by omega), u⟩
theorem Re.out {a b : Nat} {s t : Nat → Nat} (h : Re a b s t) {i : Nat} (hi : ¬ (a ≤ i ∧ i < b)) : t i = s i := by
  obtain ⟨f, g, x, y, z, u⟩ := h
  rw [u, z i hi]
theorem Re.inn {a b : Nat} {s t : Nat → Nat} (h : Re a b s t) {i : Nat} (h1 : a ≤ i) (h2 : i < b) : ∃ j, a ≤ j ∧ j < b ∧ t i = s j := by
  obtain ⟨f, g, x, y, z, u⟩ := h
  refine ⟨f i, ?_⟩
  have : a ≤ f i ∧ f i < b := by
    apply Classical.byContradiction
    intro hn
    have e := z (f i) hn
    have e2 := congrArg g e
    rw [y, y] at e2
    rw [e2] at hn
    exact hn ⟨h1, h2⟩
  exact ⟨this.1, this.2, u i⟩
theorem Re.all {a b : Nat} {s t : Nat → Nat} (h : Re a b s t) {p : Nat → Prop} (hp : ∀ i, a ≤ i → i < b → p (s i)) : ∀ i, a ≤ i → i < b → p (t i) := fun i h1 h2 => by
  obtain ⟨j, j1, j2, e⟩ := h.inn h1 h2
  rw [e]; exact hp j j1 j2
/-- Positions i and j exchanged. -/
def sw (i j : Nat) (s : Nat → Nat) (k : Nat) : Nat := if k = j then s i else if k = i then s j else s k
theorem Re.sw {a b i j : Nat} (s : Nat → Nat) (hi : a ≤ i ∧ i < b) (hj : a ≤ j ∧ j < b) : Re a b s (sw i j s) := by
  refine ⟨fun k => if k = j then i else if k = i then j else k, fun k => if k = j then i else if k = i then j else k, ?_, ?_, ?_, ?_⟩
  · intro k; dsimp only; repeat' split
    all_goals omega
  · intro k; dsimp only; repeat' split
    all_goals omega
  · intro k hk; dsimp only; repeat' split
    all_goals omega
  · intro k; unfold Go.Proofs.YtfgepnbfideliaaGreatDoor.sw; dsimp only; repeat' split
    all_goals rfl
/-- The element of position i laid in at j, what stood from j on one place further. -/
def ins (j i : Nat) (s : Nat → Nat) (k : Nat) : Nat := if k = j then s i else if j < k ∧ k ≤ i then s (k - 1) else s k
theorem ins_self (i : Nat) (s : Nat → Nat) : ins i i s = s := by
  funext k; unfold ins
  by_cases h : k = i
  · rw [if_pos h, h]
  · rw [if_neg h, if_neg (by omega)]
theorem ins_step {j i : Nat} (h0 : 0 < j) (h : j ≤ i) (s : Nat → Nat) : sw j (j - 1) (ins j i s) = ins (j - 1) i s := by
  funext k; unfold sw ins
  by_cases h1 : k = j - 1
  · rw [if_pos h1, if_pos rfl, if_pos h1]
  · rw [if_neg h1, if_neg h1]
    by_cases h2 : k = j
    · rw [if_pos h2, if_neg (by omega), if_neg (by omega), if_pos (by omega), h2]
    · rw [if_neg h2, if_neg h2]
      by_cases h3 : j < k ∧ k ≤ i
      · rw [if_pos h3, if_pos (by omega)]
      · rw [if_neg h3, if_neg (by omega)]
theorem ins_srt {key : Nat → Int} {s : Nat → Nat} {a i j : Nat} (h : Srt key s a i) (h1 : a ≤ j) (h2 : j ≤ i) (hlo : ∀ k, a ≤ k → k < j → bef key (s k) (s i)) (hhi : ∀ k, j ≤ k → k < i → bef key (s i) (s k)) : Srt key (ins j i s) a (i + 1) := by
  intro x y hx hxy hy
  unfold ins
  by_cases e1 : x = j
  · rw [if_pos e1, if_neg (by omega), if_pos (by omega)]; exact hhi _ (by omega) (by omega)
  · rw [if_neg e1]
    by_cases e2 : y = j
    · rw [if_pos e2, if_neg (by omega)]; exact hlo _ hx (by omega)
    · rw [if_neg e2]
      by_cases e3 : j < x ∧ x ≤ i
      · rw [if_pos e3, if_pos (by omega)]; exact h _ _ (by omega) (by omega) (by omega)
      · rw [if_neg e3]
        by_cases e4 : j < y ∧ y ≤ i
        · rw [if_pos e4]
          by_cases e5 : x = y - 1
          · omega
          · exact h _ _ hx (by omega) (by omega)
        · rw [if_neg e4]; exact h _ _ hx hxy (by omega)
/-- The element of position a laid in at j further right. -/
def insR (a j : Nat) (s : Nat → Nat) (k : Nat) : Nat := if k = j then s a else if a ≤ k ∧ k < j then s (k + 1) else s k
theorem insR_self (a : Nat) (s : Nat → Nat) : insR a a s = s := by
  funext k; unfold insR
  by_cases h : k = a
  · rw [if_pos h, h]
  · rw [if_neg h, if_neg (by omega)]
theorem insR_step {a j : Nat} (h : a ≤ j) (s : Nat → Nat) : sw j (j + 1) (insR a j s) = insR a (j + 1) s := by
  funext k; unfold sw insR
  by_cases h1 : k = j + 1
  · rw [if_pos h1, if_pos rfl, if_pos h1]
  · rw [if_neg h1, if_neg h1]
    by_cases h2 : k = j
    · rw [if_pos h2, if_neg (by omega), if_neg (by omega), if_pos (by omega), h2]
    · rw [if_neg h2, if_neg h2]
      by_cases h3 : a ≤ k ∧ k < j
      · rw [if_pos h3, if_pos (by omega)]
      · rw [if_neg h3, if_neg (by omega)]
theorem insR_srt {key : Nat → Int} {s : Nat → Nat} {a b j : Nat} (h : Srt key s (a + 1) b) (h1 : a ≤ j) (h2 : j < b) (hlo : ∀ k, a < k → k ≤ j → bef key (s k) (s a)) (hhi : ∀ k, j < k → k < b → bef key (s a) (s k)) : Srt key (insR a j s) a b := by
  intro x y hx hxy hy
  unfold insR
  by_cases e1 : x = j
  · rw [if_pos e1, if_neg (by omega), if_neg (by omega)]; exact hhi _ (by omega) (by omega)
  · rw [if_neg e1]
    by_cases e2 : y = j
    · rw [if_pos e2, if_pos (by omega)]; exact hlo _ (by omega) (by omega)
    · rw [if_neg e2]
      by_cases e3 : a ≤ x ∧ x < j
      · rw [if_pos e3]
        by_cases e4 : a ≤ y ∧ y < j
        · rw [if_pos e4]; exact h _ _ (by omega) (by omega) (by omega)
        · rw [if_neg e4]; exact h _ _ (by omega) (by omega) (by omega)
      · rw [if_neg e3, if_neg (by omega)]; exact h _ _ (by omega) (by omega) (by omega)
/-- n positions from p on exchanged with those from q on. -/
def swr (p q n : Nat) (s : Nat → Nat) (k : Nat) : Nat := if p ≤ k ∧ k < p + n then s (k - p + q) else if q ≤ k ∧ k < q + n then s (k - q + p) else s k
theorem swr_zero (p q : Nat) (s : Nat → Nat) : swr p q 0 s = s := by
  funext k; unfold swr; rw [if_neg (by omega), if_neg (by omega)]
theorem swr_step {p q t : Nat} (h : p + t < q ∨ q + t < p) (s : Nat → Nat) : sw (p + t) (q + t) (swr p q t s) = swr p q (t + 1) s := by
  funext k; unfold sw swr
  by_cases h1 : k = q + t
  · rw [if_pos h1, if_neg (by omega), if_neg (by omega), if_neg (by omega), if_pos (by omega)]
    congr 1; omega
  · rw [if_neg h1]
    by_cases h2 : k = p + t
    · rw [if_pos h2, if_neg (by omega), if_neg (by omega), if_pos (by omega)]
      congr 1; omega
    · rw [if_neg h2]
      by_cases h3 : p ≤ k ∧ k < p + t
      · rw [if_pos h3, if_pos (by omega)]
      · rw [if_neg h3, if_neg (show ¬ (p ≤ k ∧ k < p + (t + 1)) by omega)]
        by_cases h4 : q ≤ k ∧ k < q + t
        · rw [if_pos h4, if_pos (by omega)]
        · rw [if_neg h4, if_neg (by omega)]
/-- [a, m) and [m, b) change places. -/
def rot (a m b : Nat) (s : Nat → Nat) (k : Nat) : Nat := if a ≤ k ∧ k < a + (b - m) then s (k + (m - a)) else if a + (b - m) ≤ k ∧ k < b then s (k - (b - m)) else s k
theorem rot_gt {m i j : Nat} (hi : i ≤ m) (hj : 0 < j) (h : j < i) (s : Nat → Nat) : rot (m - i) m (m + j) s = rot (m - (i - j)) m (m + j) (swr (m - i) m j s) := by
  funext k; unfold rot swr
  by_cases h1 : m - i ≤ k ∧ k < m - i + (m + j - m)
  · rw [if_pos h1, if_neg (by omega), if_neg (by omega), if_pos (by omega)]
    congr 1; omega
  · rw [if_neg h1]
    by_cases h2 : m - i + (m + j - m) ≤ k ∧ k < m + j
    · rw [if_pos h2]
      by_cases h3 : m - (i - j) ≤ k ∧ k < m - (i - j) + (m + j - m)
      · rw [if_pos h3, if_neg (by omega), if_pos (by omega)]
        congr 1; omega
      · rw [if_neg h3, if_pos (by omega), if_neg (by omega), if_neg (by omega)]
    · rw [if_neg h2, if_neg (by omega), if_neg (by omega), if_neg (by omega), if_neg (by omega)]
theorem rot_lt {m i j : Nat} (hi : i ≤ m) (h0 : 0 < i) (h : i < j) (s : Nat → Nat) : rot (m - i) m (m + j) s = rot (m - i) m (m + (j - i)) (swr (m - i) (m + j - i) i s) := by
  funext k; unfold rot swr
  by_cases h1 : m - i ≤ k ∧ k < m - i + (m + j - m)
  · rw [if_pos h1]
    by_cases h2 : m - i ≤ k ∧ k < m - i + (m + (j - i) - m)
    · rw [if_pos h2, if_neg (by omega), if_neg (by omega)]
    · rw [if_neg h2]
      by_cases h3 : m - i + (m + (j - i) - m) ≤ k ∧ k < m + (j - i)
      · rw [if_pos h3, if_pos (by omega)]
        congr 1; omega
      · omega
  · rw [if_neg h1]
    by_cases h2 : m - i + (m + j - m) ≤ k ∧ k < m + j
    · rw [if_pos h2, if_neg (by omega), if_neg (by omega), if_neg (by omega), if_pos (by omega)]
      congr 1; omega
    · rw [if_neg h2, if_neg (by omega), if_neg (by omega), if_neg (by omega), if_neg (by omega)]
theorem rot_eq {m i : Nat} (hi : i ≤ m) (s : Nat → Nat) : rot (m - i) m (m + i) s = swr (m - i) m i s := by
  funext k; unfold rot swr
  by_cases h1 : m - i ≤ k ∧ k < m - i + (m + i - m)
  · rw [if_pos h1, if_pos (by omega)]
    congr 1; omega
  · rw [if_neg h1]
    by_cases h2 : m - i + (m + i - m) ≤ k ∧ k < m + i
    · rw [if_pos h2, if_neg (by omega), if_pos (by omega)]
      congr 1; omega
    · rw [if_neg h2, if_neg (by omega), if_neg (by omega)]
theorem Re.swr {a b p q : Nat} (s : Nat → Nat) : ∀ n, (p + n ≤ q ∨ q + n ≤ p) → a ≤ p → p + n ≤ b → a ≤ q → q + n ≤ b → Re a b s (swr p q n s)
  | 0, _, _, _, _, _ => by rw [swr_zero]; exact Re.refl _ _ _
  | n + 1, h, h1, h2, h3, h4 => by
    rw [← swr_step (by omega)]
    exact (Re.swr s n (by omega) h1 (by omega) h3 (by omega)).trans (Re.sw _ (by omega) (by omega))
theorem Re.rot {a m b : Nat} (h1 : a ≤ m) (h2 : m ≤ b) (s : Nat → Nat) : Re a b s (rot a m b s) := by
  refine ⟨fun k => if a ≤ k ∧ k < a + (b - m) then k + (m - a) else if a + (b - m) ≤ k ∧ k < b then k - (b - m) else k, fun k => if a ≤ k ∧ k < m then k + (b - m) else if m ≤ k ∧ k < b then k - (m - a) else k, ?_, ?_, ?_, ?_⟩
  · intro k; dsimp only; repeat' split
    all_goals omega
  · intro k; dsimp only; repeat' split
    all_goals omega
  · intro k hk; dsimp only; repeat' split
    all_goals omega
  · intro k; unfold Go.Proofs.YtfgepnbfideliaaGreatDoor.rot; dsimp only; repeat' split
    all_goals rfl
/-- The element of place i laid in at j. -/
theorem Re.ins {a b i j : Nat} (s : Nat → Nat) (h1 : a ≤ j) (h2 : j ≤ i) (h3 : i < b) : Re a b s (ins j i s) := by
  refine ⟨fun k => if k = j then i else if j < k ∧ k ≤ i then k - 1 else k, fun k => if k = i then j else if j ≤ k ∧ k < i then k + 1 else k, ?_, ?_, ?_, ?_⟩
  · intro k; dsimp only; repeat' split
    all_goals omega
  · intro k; dsimp only; repeat' split
    all_goals omega
  · intro k hk; dsimp only; repeat' split
    all_goals omega
  · intro k; unfold Go.Proofs.YtfgepnbfideliaaGreatDoor.ins; dsimp only; repeat' split
    all_goals rfl
theorem Re.insR {a b i j : Nat} (s : Nat → Nat) (h1 : a ≤ i) (h2 : i ≤ j) (h3 : j < b) : Re a b s (insR i j s) := by
  refine ⟨fun k => if k = j then i else if i ≤ k ∧ k < j then k + 1 else k, fun k => if k = i then j else if i < k ∧ k ≤ j then k - 1 else k, ?_, ?_, ?_, ?_⟩
  · intro k; dsimp only; repeat' split
    all_goals omega
  · intro k; dsimp only; repeat' split
    all_goals omega
  · intro k hk; dsimp only; repeat' split
    all_goals omega
  · intro k; unfold Go.Proofs.YtfgepnbfideliaaGreatDoor.insR; dsimp only; repeat' split
    all_goals rfl
end Go.Proofs.YtfgepnbfideliaaGreatDoor
