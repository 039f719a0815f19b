/- The walk of FnCompareAntisymmetric: it returns true. -/
import Derived.Test.YtmfigefooicgiaaGreatDoorTI44
import Derived.Test.YtmfigefooicgiaaGreatDoorPlain44
namespace Go.Proofs.YtmfigefooicgiaaGreatDoor
open Go.RowKit
set_option maxRecDepth 100000
set_option maxHeartbeats 4000000
def normI (k : Int) : Int := if k < 1 ∨ 6 < k then 0 else k
theorem norm (k : Int) (w : World) : Calls Tryz.prog 13 #[.int .i64 k] w fun e w' => e = .returned (.int .i64 (normI k)) ∧ w = w' := by
  unfold normI
  by_cases h1 : k < 1
  · rw [if_pos (Or.inl h1)]
    go_enter Tryz.func13, Tryz.ntmps13
    go_wp2
    go_ret
    exact ⟨rfl, rfl⟩
  · by_cases h2 : 6 < k
    · rw [if_pos (Or.inr h2)]
      go_enter Tryz.func13, Tryz.ntmps13
      go_wp2
      go_ret
      exact ⟨rfl, rfl⟩
    · rw [if_neg (by omega)]
      go_enter Tryz.func13, Tryz.ntmps13
      go_wp2
      go_ret
      exact ⟨rfl, rfl⟩
/-- The guard on NaN passes the value: its kind is not 3, or its float is a number. -/
def V.fit (a : V) : Prop := a.k = 3 → nn a.f
theorem V.num {a : V} (h : a.fit) : a.x.num := by
  unfold V.x toX
  repeat' split
  all_goals first | trivial | (exact h (by assumption))
theorem norm_ne {k : Int} (h : k ≠ 3) : (normI k == 3) = false := by
  unfold normI
  split
  · rfl
  · simpa using h
theorem nan_guard {a : V} (fa : a.fit) : ((normI a.k == 3) = true ∧ (FloatKind.f64.format.order a.f a.f != some Ordering.eq) = false) ∨ (normI a.k == 3) = false := by
  by_cases c : a.k = 3
  · have := fa c
    exact Or.inl ⟨by rw [c]; rfl, by simpa [nn] using this⟩
  · exact Or.inr (norm_ne c)
theorem lawAS_no (a b : V) (w : World) (h : ¬ (a.s.size : Int) + a.l + b.s.size + b.l ≤ 1048576) (hs : (a.s.size : Int) ≤ 9223372036854775807) (hl : (a.l : Int) ≤ 9223372036854775807) (ht : (b.s.size : Int) ≤ 9223372036854775807) (hm : (b.l : Int) ≤ 9223372036854775807) :
    Calls Tryz.prog 4 #[.int .i64 a.k, .bool a.b, .int .i64 a.n, .float .f64 a.f, .string a.s, .slice a.p a.l a.c, .int .i64 b.k, .bool b.b, .int .i64 b.n, .float .f64 b.f, .string b.s, .slice b.p b.l b.c] w fun e w' => e = .returned (.bool true) ∧ Below w.heap.size w w' := by
  have H := Lib.hid (bytes_no_CompareAntisymmetric a.k a.b a.n a.f a.s a.p a.l a.c b.k b.b b.n b.f b.s b.p b.l b.c w h hs hl ht hm)
  clear h hs hl ht hm
  go_enter Tryz.func4, Tryz.ntmps4
  go_wp2_with fail
  refine H.out.mono ?_
  rintro e w' ⟨rfl, rfl⟩
  go_wp2_with fail
  go_ret
  exact ⟨rfl, Below.refl _ _⟩
/-- The rest of the law behind the guards; 'G' tells how the two guards on NaN fall. -/
theorem lawAS_yes (a b : V) (w : World) (h : (a.s.size : Int) + a.l + b.s.size + b.l ≤ 1048576) (ha : a.ok w) (hb : b.ok w) :
    Calls Tryz.prog 4 #[.int .i64 a.k, .bool a.b, .int .i64 a.n, .float .f64 a.f, .string a.s, .slice a.p a.l a.c, .int .i64 b.k, .bool b.b, .int .i64 b.n, .float .f64 b.f, .string b.s, .slice b.p b.l b.c] w fun e w' => e = .returned (.bool true) ∧ Below w.heap.size w w' := by
  have H := Lib.hid (bytes_yes_CompareAntisymmetric a.k a.b a.n a.f a.s a.p a.l a.c b.k b.b b.n b.f b.s b.p b.l b.c w h)
  have H2 := Lib.hid (tooBig a.s a.p a.l a.c b.s b.p b.l b.c w h)
  have HA := Lib.hid ha
  have HB := Lib.hid hb
  clear h ha hb
  go_enter Tryz.func4, Tryz.ntmps4
  go_wp2_with fail
  refine H.out.mono ?_
  rintro e w' ⟨rfl, rfl⟩
  go_wp2_with fail
  refine H2.out.mono ?_
  rintro e w' ⟨⟨tb, rfl⟩, rfl⟩
  cases tb with
  | true =>
    go_wp2_with fail
    go_ret
    exact ⟨rfl, Below.refl _ _⟩
  | false =>
    go_wp2_with fail
    refine (norm _ _).mono ?_
    rintro e w' ⟨rfl, rfl⟩
    by_cases fa : a.fit
    case neg =>
      obtain ⟨hk, hn⟩ : a.k = 3 ∧ ¬ nn a.f := by unfold V.fit at fa; exact Classical.not_imp.1 fa
      have t1 : (normI a.k == 3) = true := by rw [hk]; rfl
      have t2 : (FloatKind.f64.format.order a.f a.f != some Ordering.eq) = true := by simpa [nn] using hn
      clear hk hn fa
      go_wp2_with fail
      go_ret
      exact ⟨rfl, Below.refl _ _⟩
    have FA := Lib.hid fa
    have GA := nan_guard fa
    clear fa
    by_cases fb : b.fit
    case neg =>
      obtain ⟨hk, hn⟩ : b.k = 3 ∧ ¬ nn b.f := by unfold V.fit at fb; exact Classical.not_imp.1 fb
      have s1 : (normI b.k == 3) = true := by rw [hk]; rfl
      have s2 : (FloatKind.f64.format.order b.f b.f != some Ordering.eq) = true := by simpa [nn] using hn
      clear hk hn fb
      rcases GA with ⟨t1, t3⟩ | t1
      all_goals
        go_wp2_with fail
        refine (norm _ _).mono ?_
        rintro e w' ⟨rfl, rfl⟩
        go_wp2_with fail
        go_ret
        exact ⟨rfl, Below.refl _ _⟩
    have FB := Lib.hid fb
    have GB := nan_guard fb
    clear fb
    rcases GA with ⟨t1, t3⟩ | t1 <;> rcases GB with ⟨s1, s3⟩ | s1
    all_goals
      go_wp2_with fail
      refine (norm _ _).mono ?_
      rintro e w' ⟨rfl, rfl⟩
      go_wp2_with fail
      clear H H2
      refine (copyS _ _ _ HA.out.1 HA.out.2).mono ?_
      rintro e w1 ⟨p1, l1, c1, rfl, hv1, hb1⟩
      have HV1 := Lib.hid hv1
      have HB1 := Lib.hid hb1
      clear hv1 hb1
      go_wp2_with fail
      refine (copyS _ _ _ (HB.out.1.below HB1.out) HB.out.2).mono ?_
      rintro e w2 ⟨p2, l2, c2, rfl, hv2, hb2⟩
      have HV2 := Lib.hid hv2
      have HB2 := Lib.hid (HB1.out.trans (hb2.mono HB1.out.size))
      have HV3 := Lib.hid (HV1.out.below hb2)
      clear hv2 hb2 HB1 HV1
      go_wp2_with fail
      refine (mkVal _ _ _ _ _ _ _ _ _).mono ?_
      rintro e w3 ⟨rfl, hb3⟩
      have HB3 := Lib.hid hb3
      clear hb3
      go_wp2_with fail
      have HA1 := Lib.hid (show V.ok w2 ⟨a.k, a.b, a.n, a.f, a.s, p1, l1, c1, a.xs⟩ from ⟨HV3.out, HA.out.2⟩)
      have HB1 := Lib.hid (show V.ok w2 ⟨b.k, b.b, b.n, b.f, b.s, p2, l2, c2, b.xs⟩ from ⟨HV2.out, HB.out.2⟩)
      clear HA HB HV2 HV3
      have HX3 := Lib.hid (show BoxOf (w3.alloc (.cells #[.int .i64 a.k, .bool a.b, .int .i64 a.n, .float .f64 a.f, .string a.s, .slice p1 l1 c1] 28)) w3.heap.size ⟨a.k, a.b, a.n, a.f, a.s, p1, l1, c1, a.xs⟩ from ⟨by simp, by simp, by simp, by simp, by simp, by simp⟩)
      have HB5 := Lib.hid ((HB2.out.trans (HB3.out.mono HB2.out.size)).alloc (HB2.out.trans (HB3.out.mono HB2.out.size)).size (.cells #[.int .i64 a.k, .bool a.b, .int .i64 a.n, .float .f64 a.f, .string a.s, .slice p1 l1 c1] 28))
      have HA3 := Lib.hid ((HA1.out.below HB3.out).below ((Below.refl _ _).alloc (Nat.le_refl _) (.cells #[.int .i64 a.k, .bool a.b, .int .i64 a.n, .float .f64 a.f, .string a.s, .slice p1 l1 c1] 28)))
      have HB6 := Lib.hid ((HB1.out.below HB3.out).below ((Below.refl _ _).alloc (Nat.le_refl _) (.cells #[.int .i64 a.k, .bool a.b, .int .i64 a.n, .float .f64 a.f, .string a.s, .slice p1 l1 c1] 28)))
      refine (mkVal _ _ _ _ _ _ _ _ _).mono ?_
      rintro e w4 ⟨rfl, hb4⟩
      have HX4 := Lib.hid (HX3.out.below hb4)
      have HL4 := Lib.hid (HB5.out.trans (hb4.mono HB5.out.size))
      have HA4 := Lib.hid (HA3.out.below hb4)
      have HB7 := Lib.hid (HB6.out.below hb4)
      clear hb4 HX3 HB5 HA3 HB6 HB3 HB2 HA1 HB1
      obtain ⟨n3, hn3⟩ : ∃ n3, n3 = w3.heap.size := ⟨_, rfl⟩
      rw [← hn3] at HX4 ⊢
      clear hn3
      have HY5 := Lib.hid (show BoxOf (w4.alloc (.cells #[.int .i64 b.k, .bool b.b, .int .i64 b.n, .float .f64 b.f, .string b.s, .slice p2 l2 c2] 28)) w4.heap.size ⟨b.k, b.b, b.n, b.f, b.s, p2, l2, c2, b.xs⟩ from ⟨by simp, by simp, by simp, by simp, by simp, by simp⟩)
      have HX5 := Lib.hid (HX4.out.below ((Below.refl _ _).alloc (Nat.le_refl _) (.cells #[.int .i64 b.k, .bool b.b, .int .i64 b.n, .float .f64 b.f, .string b.s, .slice p2 l2 c2] 28)))
      have HL5 := Lib.hid (HL4.out.alloc HL4.out.size (.cells #[.int .i64 b.k, .bool b.b, .int .i64 b.n, .float .f64 b.f, .string b.s, .slice p2 l2 c2] 28))
      have HA5 := Lib.hid (HA4.out.below ((Below.refl _ _).alloc (Nat.le_refl _) (.cells #[.int .i64 b.k, .bool b.b, .int .i64 b.n, .float .f64 b.f, .string b.s, .slice p2 l2 c2] 28)))
      have HB8 := Lib.hid (HB7.out.below ((Below.refl _ _).alloc (Nat.le_refl _) (.cells #[.int .i64 b.k, .bool b.b, .int .i64 b.n, .float .f64 b.f, .string b.s, .slice p2 l2 c2] 28)))
      clear HX4 HL4 HA4 HB7
      have hx := HX5.out
      simp only [BoxOf] at hx
      obtain ⟨x0, x1, x2, x3, x4, x5⟩ := hx
      go_wp2_with fail
      clear x0 x1 x2 x3 x4 x5
      obtain ⟨n4, hn4⟩ : ∃ n4, n4 = w4.heap.size := ⟨_, rfl⟩
      rw [← hn4] at HY5
      simp only [← hn4]
      clear hn4
      refine (zzCmp ⟨a.k, a.b, a.n, a.f, a.s, p1, l1, c1, a.xs⟩ ⟨b.k, b.b, b.n, b.f, b.s, p2, l2, c2, b.xs⟩ _ HA5.out HB8.out).mono ?_
      rintro e w5 ⟨rfl, hb5⟩
      have hx := HX5.out.below hb5
      simp only [BoxOf] at hx
      obtain ⟨x0, x1, x2, x3, x4, x5⟩ := hx
      have hy := HY5.out.below hb5
      simp only [BoxOf] at hy
      obtain ⟨y0, y1, y2, y3, y4, y5⟩ := hy
      have HX6 := Lib.hid (HX5.out.below hb5)
      have HY6 := Lib.hid (HY5.out.below hb5)
      have HL6 := Lib.hid (HL5.out.trans (hb5.mono HL5.out.size))
      have HA6 := Lib.hid (HA5.out.below hb5)
      have HB9 := Lib.hid (HB8.out.below hb5)
      clear hb5 HX5 HY5 HL5 HA5 HB8
      go_wp2_with fail
      clear x0 x1 x2 x3 x4 x5 y0 y1 y2 y3 y4 y5
      refine (zzCmp ⟨b.k, b.b, b.n, b.f, b.s, p2, l2, c2, b.xs⟩ ⟨a.k, a.b, a.n, a.f, a.s, p1, l1, c1, a.xs⟩ _ HB9.out HA6.out).mono ?_
      rintro e w6 ⟨rfl, hb6⟩
      have hx := HX6.out.below hb6
      simp only [BoxOf] at hx
      obtain ⟨x0, x1, x2, x3, x4, x5⟩ := hx
      have HY7 := Lib.hid (HY6.out.below hb6)
      have HL7 := Lib.hid (HL6.out.trans (hb6.mono HL6.out.size))
      have HA7 := Lib.hid (HA6.out.below hb6)
      have HB10 := Lib.hid (HB9.out.below hb6)
      clear hb6 HX6 HY6 HL6 HA6 HB9
      have hsw := X.cmp_swap (V.x ⟨a.k, a.b, a.n, a.f, a.s, p1, l1, c1, a.xs⟩) (V.x ⟨b.k, b.b, b.n, b.f, b.s, p2, l2, c2, b.xs⟩) (V.num FA.out) (V.num FB.out)
      have hra := X.cmp_range (V.x ⟨a.k, a.b, a.n, a.f, a.s, p1, l1, c1, a.xs⟩) (V.x ⟨b.k, b.b, b.n, b.f, b.s, p2, l2, c2, b.xs⟩)
      rw [hsw]
      clear hsw
      have HSA := Lib.hid (X.cmp_self (V.x ⟨a.k, a.b, a.n, a.f, a.s, p1, l1, c1, a.xs⟩) (V.num FA.out))
      have HSB := Lib.hid (X.cmp_self (V.x ⟨b.k, b.b, b.n, b.f, b.s, p2, l2, c2, b.xs⟩) (V.num FB.out))
      generalize (V.x ⟨a.k, a.b, a.n, a.f, a.s, p1, l1, c1, a.xs⟩).cmp (V.x ⟨b.k, b.b, b.n, b.f, b.s, p2, l2, c2, b.xs⟩) = c at hra ⊢
      have HZA : ∀ W, V.ok W ⟨a.k, a.b, a.n, a.f, a.s, p1, l1, c1, a.xs⟩ → Calls Tryz.prog 11 #[V.val ⟨a.k, a.b, a.n, a.f, a.s, p1, l1, c1, a.xs⟩, V.val ⟨a.k, a.b, a.n, a.f, a.s, p1, l1, c1, a.xs⟩] W fun e w' => e = .returned (.int .i64 0) ∧ Below W.heap.size W w' := fun W h => by
        have := zzCmp ⟨a.k, a.b, a.n, a.f, a.s, p1, l1, c1, a.xs⟩ ⟨a.k, a.b, a.n, a.f, a.s, p1, l1, c1, a.xs⟩ W h h
        rwa [HSA.out] at this
      have HZB : ∀ W, V.ok W ⟨b.k, b.b, b.n, b.f, b.s, p2, l2, c2, b.xs⟩ → Calls Tryz.prog 11 #[V.val ⟨b.k, b.b, b.n, b.f, b.s, p2, l2, c2, b.xs⟩, V.val ⟨b.k, b.b, b.n, b.f, b.s, p2, l2, c2, b.xs⟩] W fun e w' => e = .returned (.int .i64 0) ∧ Below W.heap.size W w' := fun W h => by
        have := zzCmp ⟨b.k, b.b, b.n, b.f, b.s, p2, l2, c2, b.xs⟩ ⟨b.k, b.b, b.n, b.f, b.s, p2, l2, c2, b.xs⟩ W h h
        rwa [HSB.out] at this
      have HZA' := Lib.hid HZA
      have HZB' := Lib.hid HZB
      clear HZA HZB HSA HSB
      rcases hra with rfl | rfl | rfl
      all_goals
        go_wp2_with fail
        clear x0 x1 x2 x3 x4 x5
        refine (HZA'.out _ HA7.out).mono ?_
        rintro e w7 ⟨rfl, hb7⟩
        have hy := HY7.out.below hb7
        simp only [BoxOf] at hy
        obtain ⟨y0, y1, y2, y3, y4, y5⟩ := hy
        have HL8 := Lib.hid (HL7.out.trans (hb7.mono HL7.out.size))
        have HB11 := Lib.hid (HB10.out.below hb7)
        clear hb7
        go_wp2_with fail
        clear y0 y1 y2 y3 y4 y5
        refine (HZB'.out _ HB11.out).mono ?_
        rintro e w8 ⟨rfl, hb8⟩
        have HL9 := Lib.hid (HL8.out.trans (hb8.mono HL8.out.size))
        clear hb8
        go_wp2_with fail
        go_ret
        exact ⟨rfl, HL9.out⟩
theorem law_AS (w : World) (a1 : Int) (_ : -9223372036854775808 ≤ a1 ∧ a1 ≤ 9223372036854775807) (a2 : Bool) (a3 : Int) (_ : -9223372036854775808 ≤ a3 ∧ a3 ≤ 9223372036854775807) (a4 : Nat) (_ : (Lit.float .f64 a4).wf = true) (a5 : ByteArray) (hs : (a5.size : Int) ≤ 9223372036854775807)
    (a6 : List Int) (p6 : Option Addr) (c6 : Nat) (ha : Ints w (.slice p6 a6.length c6) a6) (hl : (a6.length : Int) ≤ 9223372036854775807) (_ : ∀ x ∈ a6, -9223372036854775808 ≤ x ∧ x ≤ 9223372036854775807)
    (b1 : Int) (_ : -9223372036854775808 ≤ b1 ∧ b1 ≤ 9223372036854775807) (b2 : Bool) (b3 : Int) (_ : -9223372036854775808 ≤ b3 ∧ b3 ≤ 9223372036854775807) (b4 : Nat) (_ : (Lit.float .f64 b4).wf = true) (b5 : ByteArray) (ht : (b5.size : Int) ≤ 9223372036854775807)
    (b6 : List Int) (q6 : Option Addr) (d6 : Nat) (hb : Ints w (.slice q6 b6.length d6) b6) (hm : (b6.length : Int) ≤ 9223372036854775807) (_ : ∀ x ∈ b6, -9223372036854775808 ≤ x ∧ x ≤ 9223372036854775807) :
    Calls Tryz.prog 4 #[.int .i64 a1, .bool a2, .int .i64 a3, .float .f64 a4, .string a5, .slice p6 a6.length c6, .int .i64 b1, .bool b2, .int .i64 b3, .float .f64 b4, .string b5, .slice q6 b6.length d6] w fun e w' => e = .returned (.bool true) ∧ Below w.heap.size w w' := by
  by_cases h : (a5.size : Int) + a6.length + b5.size + b6.length ≤ 1048576
  · exact lawAS_yes ⟨a1, a2, a3, a4, a5, p6, a6.length, c6, a6⟩ ⟨b1, b2, b3, b4, b5, q6, b6.length, d6, b6⟩ w h ⟨ha, by show (a6.length : Int) ≤ _; omega⟩ ⟨hb, by show (b6.length : Int) ≤ _; omega⟩
  · exact lawAS_no ⟨a1, a2, a3, a4, a5, p6, a6.length, c6, a6⟩ ⟨b1, b2, b3, b4, b5, q6, b6.length, d6, b6⟩ w h hs hl ht hm
end Go.Proofs.YtmfigefooicgiaaGreatDoor
