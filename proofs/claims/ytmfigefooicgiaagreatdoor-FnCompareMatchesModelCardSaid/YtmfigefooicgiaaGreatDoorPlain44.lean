/- The order that Compare computes: its answers are -1, 0 and 1; it is antisymmetric and reflexive off NaN. -/
import Derived.Test.YtmfigefooicgiaaGreatDoorLaw44
namespace Go.Proofs.YtmfigefooicgiaaGreatDoor
theorem int_swap (a b : Int) : Ord.compare b a = (Ord.compare a b).swap := by
  simp only [Ord.compare, compareOfLessAndEq]
  repeat' split
  all_goals first | rfl | omega
theorem nat_swap (a b : Nat) : Ord.compare b a = (Ord.compare a b).swap := by
  simp only [Ord.compare, compareOfLessAndEq]
  repeat' split
  all_goals first | rfl | omega
theorem datum_swap (x y : Ieee.Datum) : y.order x = (x.order y).map Ordering.swap := by
  cases x <;> cases y <;> simp only [Ieee.Datum.order, Option.map_some, Option.map_none]
  · rename_i s m i t n j
    rw [Int.min_comm j i, int_swap]
  · rename_i s m i t; cases t <;> rfl
  · rename_i s t n j; cases s <;> rfl
  · rename_i s t; cases s <;> cases t <;> rfl
theorem datum_self (x : Ieee.Datum) : x.order x = some .eq ∨ x.order x = none ∧ ∀ y, x.order y = none ∧ y.order x = none := by
  cases x with
  | number s m i => left; simp [Ieee.Datum.order]
  | infinity s => left; cases s <;> rfl
  | nan s f => right; exact ⟨rfl, fun y => ⟨rfl, by cases y <;> rfl⟩⟩
theorem datum_some (x y : Ieee.Datum) (hx : x.order x = some .eq) (hy : y.order y = some .eq) : ∃ o, x.order y = some o := by
  cases x <;> cases y <;> first | cases hx; done | cases hy; done | exact ⟨_, rfl⟩
/-- The float is a number or an infinity. -/
def nn (a : Nat) : Prop := FloatKind.f64.format.order a a = some .eq
theorem order_swap (a b : Nat) : FloatKind.f64.format.order b a = (FloatKind.f64.format.order a b).map Ordering.swap := datum_swap _ _
theorem order_some {a b : Nat} (ha : nn a) (hb : nn b) : ∃ o, FloatKind.f64.format.order a b = some o := datum_some _ _ ha hb
theorem order_nan {a : Nat} (ha : ¬ nn a) (b : Nat) : FloatKind.f64.format.order a b = none ∧ FloatKind.f64.format.order b a = none := by
  rcases datum_self (FloatKind.f64.format.read a) with h | h
  · exact absurd h ha
  · exact h.2 _
theorem read_word (neg : Bool) (r : Nat) (h : r ≤ Ieee.double.infRung) : ∀ s t, Ieee.double.read (Ieee.double.word neg r) ≠ .nan s t := by
  have hw : Ieee.double.word neg r % Ieee.double.signWeight = r := by
    have e : Ieee.double.infRung = 9218868437227405312 := by decide
    have e2 : Ieee.double.signWeight = 9223372036854775808 := by decide
    unfold Ieee.Format.word
    rw [e] at h
    rw [e2]
    split <;> omega
  intro s t
  unfold Ieee.Format.read
  simp only [hw]
  split
  · intro e; cases e
  · split
    · intro e; cases e
    · split
      · intro e; cases e
      · omega
theorem nn_of_int (n : Int) : nn (floatOfInt .f64 n) := by
  rcases datum_self (FloatKind.f64.format.read (floatOfInt .f64 n)) with h | ⟨h, _⟩
  · exact h
  · exfalso
    have hr : ∃ neg r, r ≤ Ieee.double.infRung ∧ floatOfInt .f64 n = Ieee.double.word neg r := by
      show ∃ neg r, r ≤ Ieee.double.infRung ∧ Ieee.double.nearest (n < 0) n.natAbs 0 = Ieee.double.word neg r
      unfold Ieee.Format.nearest
      split
      · exact ⟨_, 0, Nat.zero_le _, rfl⟩
      · exact ⟨_, _, Nat.min_le_right _ _, rfl⟩
    obtain ⟨neg, r, hle, e⟩ := hr
    have hnot := read_word neg r hle
    rw [e] at h
    have h' : (Ieee.double.read (Ieee.double.word neg r)).order (Ieee.double.read (Ieee.double.word neg r)) = none := h
    revert h' hnot
    generalize Ieee.double.read (Ieee.double.word neg r) = d
    intro hnot h'
    cases d with
    | number s m i => cases h'
    | infinity s => cases h'
    | nan s t => exact hnot s t rfl
theorem cmpF_swap {a b : Nat} (ha : nn a) (hb : nn b) : cmpF b a = - cmpF a b := by
  obtain ⟨o, ho⟩ := order_some ha hb
  have h2 := order_swap a b
  unfold nn at ha hb
  rw [ho] at h2
  unfold cmpF
  rw [ho, h2, ha, hb]
  cases o <;> rfl
theorem cmpF_self {a : Nat} (ha : nn a) : cmpF a a = 0 := by
  unfold nn at ha
  unfold cmpF
  rw [ha]; rfl
theorem cmpF_range (a b : Nat) : cmpF a b = -1 ∨ cmpF a b = 0 ∨ cmpF a b = 1 := by
  unfold cmpF
  repeat' split
  all_goals simp
theorem cmpI_swap (a b : Int) : cmpI b a = - cmpI a b := by
  unfold cmpI
  repeat' split
  all_goals omega
theorem cmpI_self (a : Int) : cmpI a a = 0 := by
  unfold cmpI
  rw [if_neg (by omega), if_neg (by omega)]
theorem cmpI_range (a b : Int) : cmpI a b = -1 ∨ cmpI a b = 0 ∨ cmpI a b = 1 := by
  unfold cmpI
  repeat' split
  all_goals simp
theorem bytesLess_self : ∀ l : List UInt8, Op.bytesLess l l = false
  | [] => rfl
  | a :: l => by simp [Op.bytesLess, bytesLess_self l]
theorem bytesLess_asymm : ∀ l r : List UInt8, Op.bytesLess l r = true → Op.bytesLess r l = false
  | [], [], h => by simp [Op.bytesLess] at h
  | [], _ :: _, _ => rfl
  | _ :: _, [], h => by simp [Op.bytesLess] at h
  | a :: l, b :: r, h => by
    simp only [Op.bytesLess, Bool.or_eq_true, Bool.and_eq_true, decide_eq_true_eq, beq_iff_eq, Bool.or_eq_false_iff, Bool.and_eq_false_iff, decide_eq_false_iff_not, beq_eq_false_iff_ne] at h ⊢
    rcases h with h | ⟨rfl, h⟩
    · exact ⟨fun h' => absurd (UInt8.lt_trans h h') (UInt8.lt_irrefl _), Or.inl (fun e => by subst e; exact UInt8.lt_irrefl _ h)⟩
    · exact ⟨UInt8.lt_irrefl _, Or.inr (bytesLess_asymm l r h)⟩
theorem bytesLess_conn : ∀ l r : List UInt8, Op.bytesLess l r = false → Op.bytesLess r l = false → l = r
  | [], [], _, _ => rfl
  | [], _ :: _, h, _ => by simp [Op.bytesLess] at h
  | _ :: _, [], _, h => by simp [Op.bytesLess] at h
  | a :: l, b :: r, h, k => by
    simp only [Op.bytesLess, Bool.or_eq_false_iff, Bool.and_eq_false_iff, decide_eq_false_iff_not, beq_eq_false_iff_ne] at h k
    have e : a = b := by
      apply UInt8.toNat_inj.1
      have h1 := h.1
      have h2 := k.1
      rw [UInt8.lt_iff_toNat_lt] at h1 h2
      omega
    subst e
    rcases h.2 with h2 | h2
    · exact absurd rfl h2
    · rcases k.2 with k2 | k2
      · exact absurd rfl k2
      · rw [bytesLess_conn l r h2 k2]
theorem cmpS_swap (a b : ByteArray) : cmpS b a = - cmpS a b := by
  unfold cmpS
  by_cases h : Op.bytesLess a.toList b.toList = true
  · have h2 := bytesLess_asymm _ _ h
    have h3 : (b.toList == a.toList) = false := by
      rw [beq_eq_false_iff_ne]; intro e; rw [e, bytesLess_self] at h; cases h
    rw [if_pos h, h2, h3]; rfl
  · have h' : Op.bytesLess a.toList b.toList = false := by simpa using h
    by_cases k : Op.bytesLess b.toList a.toList = true
    · have h3 : (a.toList == b.toList) = false := by
        rw [beq_eq_false_iff_ne]; intro e; rw [e, bytesLess_self] at k; cases k
      rw [if_pos k, h', h3]; rfl
    · have k' : Op.bytesLess b.toList a.toList = false := by simpa using k
      have e := bytesLess_conn _ _ h' k'
      rw [h', k', e]; simp
theorem cmpS_self (a : ByteArray) : cmpS a a = 0 := by
  unfold cmpS
  rw [bytesLess_self]; simp
theorem cmpS_range (a b : ByteArray) : cmpS a b = -1 ∨ cmpS a b = 0 ∨ cmpS a b = 1 := by
  unfold cmpS
  repeat' split
  all_goals simp
theorem fnz_swap (g h : Nat → Int) (d e : Int) (hg : ∀ i, h i = - g i) (hd : e = - d) : ∀ r i, fnz h e r i = - fnz g d r i
  | 0, _ => hd
  | r + 1, i => by
    unfold fnz
    rw [hg i]
    by_cases c : g i = 0
    · rw [if_pos c, if_pos (by omega)]; exact fnz_swap g h d e hg hd r (i + 1)
    · rw [if_neg c, if_neg (by omega)]
theorem fnz_range (g : Nat → Int) (d : Int) (hg : ∀ i, g i = -1 ∨ g i = 0 ∨ g i = 1) (hd : d = -1 ∨ d = 0 ∨ d = 1) : ∀ r i, fnz g d r i = -1 ∨ fnz g d r i = 0 ∨ fnz g d r i = 1
  | 0, _ => hd
  | r + 1, i => by
    unfold fnz
    split
    · exact fnz_range g d hg hd r (i + 1)
    · exact hg i
/-- Off NaN. -/
def X.num : X → Prop
  | .flo f => nn f
  | _ => True
theorem X.cmp_range (x y : X) : x.cmp y = -1 ∨ x.cmp y = 0 ∨ x.cmp y = 1 := by
  cases x <;> cases y <;> simp only [X.cmp] <;> first | exact cmpI_range _ _ | exact cmpF_range _ _ | exact cmpS_range _ _ | exact fnz_range _ _ (fun _ => cmpI_range _ _) (cmpI_range _ _) _ _ | skip
  split
  · exact cmpI_range _ _
  · exact cmpS_range _ _
theorem X.cmp_swap (x y : X) (hx : x.num) (hy : y.num) : y.cmp x = - x.cmp y := by
  cases x <;> cases y <;> simp only [X.cmp] <;> first | exact cmpI_swap _ _ | exact cmpF_swap hx hy | exact cmpF_swap (nn_of_int _) hy | exact cmpF_swap hx (nn_of_int _) | exact cmpS_swap _ _ | skip
  · rw [Nat.min_comm]; exact fnz_swap _ _ _ _ (fun _ => cmpI_swap _ _) (cmpI_swap _ _) _ _
  · rename_i s m t n
    rw [cmpS_swap s t, cmpI_swap m n]
    by_cases c : cmpS s t = 0
    · rw [if_pos c, if_pos (by omega)]
    · rw [if_neg c, if_neg (by omega)]
theorem X.cmp_self (x : X) (hx : x.num) : x.cmp x = 0 := by
  cases x <;> simp only [X.cmp] <;> first | exact cmpI_self _ | exact cmpF_self hx | exact cmpS_self _ | skip
  · rw [fnz_end _ _ _ _ (fun _ _ _ => cmpI_self _)]; exact cmpI_self _
  · rw [cmpS_self, if_pos rfl]; exact cmpI_self _
end Go.Proofs.YtmfigefooicgiaaGreatDoor
