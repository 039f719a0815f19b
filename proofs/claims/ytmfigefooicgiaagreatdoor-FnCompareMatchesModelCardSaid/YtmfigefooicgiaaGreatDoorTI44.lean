/- The walk of FnTypeIndexOrdersCompare: it returns true. -/
import Derived.Test.YtmfigefooicgiaaGreatDoorZZ44
import Derived.Test.YtmfigefooicgiaaGreatDoorGuard44
namespace Go.Proofs.YtmfigefooicgiaaGreatDoor
open Go.RowKit
set_option maxRecDepth 100000
set_option maxHeartbeats 2000000
theorem cmpI_facts (i j : Int) : (cmpI i j = 0 → i = j) ∧ (i < j → cmpI i j = -1) ∧ (j < i → cmpI i j = 1) := by
  unfold cmpI
  repeat' split
  all_goals (refine ⟨?_, ?_, ?_⟩ <;> intros <;> omega)
theorem X.cmp_idx (x y : X) : (x.cmp y = 0 → x.idx = y.idx) ∧ (x.idx < y.idx → x.cmp y = -1) ∧ (y.idx < x.idx → x.cmp y = 1) := by
  cases x <;> cases y <;> first | exact cmpI_facts _ _ | exact ⟨fun _ => rfl, fun h => absurd h (Int.lt_irrefl _), fun h => absurd h (Int.lt_irrefl _)⟩
theorem copyS (v : Value) (xs : List Int) (w : World) (hv : Ints w v xs) (hn : (xs.length : Int) ≤ 1048576) :
    Calls Tryz.prog 8 #[v] w fun e w' => ∃ p l c, e = .returned (.slice p l c) ∧ Ints w' (.slice p l c) xs ∧ Below w.heap.size w w' :=
  (copy v xs w hv hn).mono fun e w' ⟨v', h1, h2, h3⟩ => by
    obtain ⟨p, l, c, rfl⟩ : ∃ p l c, v' = .slice p l c := by
      obtain ⟨p, c, rfl⟩ := h2.slice
      exact ⟨_, _, _, rfl⟩
    exact ⟨p, l, c, h1, h2, h3⟩
theorem lawTI_no (a b : V) (w : World) (h : ¬ (a.s.size : Int) + a.l + b.s.size + b.l ≤ 1048576) (hs : (a.s.size : Int) ≤ 9223372036854775807) (hl : (a.l : Int) ≤ 9223372036854775807) (ht : (b.s.size : Int) ≤ 9223372036854775807) (hm : (b.l : Int) ≤ 9223372036854775807) :
    Calls Tryz.prog 3 #[.int .i64 a.k, .bool a.b, .int .i64 a.n, .float .f64 a.f, .string a.s, .slice a.p a.l a.c, .int .i64 b.k, .bool b.b, .int .i64 b.n, .float .f64 b.f, .string b.s, .slice b.p b.l b.c] w fun e w' => e = .returned (.bool true) ∧ Below w.heap.size w w' := by
  have H := Lib.hid (bytes_no_TypeIndexOrdersCompare a.k a.b a.n a.f a.s a.p a.l a.c b.k b.b b.n b.f b.s b.p b.l b.c w h hs hl ht hm)
  clear h hs hl ht hm
  go_enter Tryz.func3, Tryz.ntmps3
  go_wp2_with fail
  refine H.out.mono ?_
  rintro e w' ⟨rfl, rfl⟩
  go_wp2_with fail
  go_ret
  exact ⟨rfl, Below.refl _ _⟩
theorem lawTI_yes (a b : V) (w : World) (h : (a.s.size : Int) + a.l + b.s.size + b.l ≤ 1048576) (ha : a.ok w) (hb : b.ok w) :
    Calls Tryz.prog 3 #[.int .i64 a.k, .bool a.b, .int .i64 a.n, .float .f64 a.f, .string a.s, .slice a.p a.l a.c, .int .i64 b.k, .bool b.b, .int .i64 b.n, .float .f64 b.f, .string b.s, .slice b.p b.l b.c] w fun e w' => e = .returned (.bool true) ∧ Below w.heap.size w w' := by
  have H := Lib.hid (bytes_yes_TypeIndexOrdersCompare a.k a.b a.n a.f a.s a.p a.l a.c b.k b.b b.n b.f b.s b.p b.l b.c w h)
  have H2 := Lib.hid (tooBig a.s a.p a.l a.c b.s b.p b.l b.c w h)
  have HA := Lib.hid ha
  have HB := Lib.hid hb
  clear h ha hb
  go_enter Tryz.func3, Tryz.ntmps3
  go_wp2_with fail
  refine H.out.mono ?_
  rintro e w' ⟨rfl, rfl⟩
  go_wp2_with fail
  refine H2.out.mono ?_
  rintro e w' ⟨⟨tb, rfl⟩, rfl⟩
  cases tb with
  | true =>
    go_wp2_with fail
    go_ret
    exact ⟨rfl, Below.refl _ _⟩
  | false =>
    go_wp2_with fail
    refine (copyS _ _ _ HA.out.1 HA.out.2).mono ?_
    rintro e w1 ⟨p1, l1, c1, rfl, hv1, hb1⟩
    have HV1 := Lib.hid hv1
    have HB1 := Lib.hid hb1
    clear hv1 hb1
    go_wp2_with fail
    refine (copyS _ _ _ (HB.out.1.below HB1.out) HB.out.2).mono ?_
    rintro e w2 ⟨p2, l2, c2, rfl, hv2, hb2⟩
    have HV2 := Lib.hid hv2
    have HB2 := Lib.hid (HB1.out.trans (hb2.mono HB1.out.size))
    have HV3 := Lib.hid (HV1.out.below hb2)
    clear hv2 hb2 HB1 HV1
    go_wp2_with fail
    refine (mkVal _ _ _ _ _ _ _ _ _).mono ?_
    rintro e w3 ⟨rfl, hb3⟩
    have HB3 := Lib.hid hb3
    clear hb3
    go_wp2_with fail
    have HA1 := Lib.hid (show V.ok w2 ⟨a.k, a.b, a.n, a.f, a.s, p1, l1, c1, a.xs⟩ from ⟨HV3.out, HA.out.2⟩)
    have HB1 := Lib.hid (show V.ok w2 ⟨b.k, b.b, b.n, b.f, b.s, p2, l2, c2, b.xs⟩ from ⟨HV2.out, HB.out.2⟩)
    clear HA HB HV2 HV3 H H2
    have HX3 := Lib.hid (show BoxOf (w3.alloc (.cells #[.int .i64 a.k, .bool a.b, .int .i64 a.n, .float .f64 a.f, .string a.s, .slice p1 l1 c1] 28)) w3.heap.size ⟨a.k, a.b, a.n, a.f, a.s, p1, l1, c1, a.xs⟩ from ⟨by simp, by simp, by simp, by simp, by simp, by simp⟩)
    have HB5 := Lib.hid ((HB2.out.trans (HB3.out.mono HB2.out.size)).alloc (HB2.out.trans (HB3.out.mono HB2.out.size)).size (.cells #[.int .i64 a.k, .bool a.b, .int .i64 a.n, .float .f64 a.f, .string a.s, .slice p1 l1 c1] 28))
    have HA3 := Lib.hid ((HA1.out.below HB3.out).below ((Below.refl _ _).alloc (Nat.le_refl _) (.cells #[.int .i64 a.k, .bool a.b, .int .i64 a.n, .float .f64 a.f, .string a.s, .slice p1 l1 c1] 28)))
    have HB6 := Lib.hid ((HB1.out.below HB3.out).below ((Below.refl _ _).alloc (Nat.le_refl _) (.cells #[.int .i64 a.k, .bool a.b, .int .i64 a.n, .float .f64 a.f, .string a.s, .slice p1 l1 c1] 28)))
    refine (mkVal _ _ _ _ _ _ _ _ _).mono ?_
    rintro e w4 ⟨rfl, hb4⟩
    have HX4 := Lib.hid (HX3.out.below hb4)
    have HL4 := Lib.hid (HB5.out.trans (hb4.mono HB5.out.size))
    have HA4 := Lib.hid (HA3.out.below hb4)
    have HB7 := Lib.hid (HB6.out.below hb4)
    clear hb4 HX3 HB5 HA3 HB6 HB3 HB2 HA1 HB1
    obtain ⟨n3, hn3⟩ : ∃ n3, n3 = w3.heap.size := ⟨_, rfl⟩
    rw [← hn3] at HX4 ⊢
    clear hn3
    have HX5 := Lib.hid (HX4.out.below ((Below.refl _ _).alloc (Nat.le_refl _) (.cells #[.int .i64 b.k, .bool b.b, .int .i64 b.n, .float .f64 b.f, .string b.s, .slice p2 l2 c2] 28)))
    have HY5 := Lib.hid (show BoxOf (w4.alloc (.cells #[.int .i64 b.k, .bool b.b, .int .i64 b.n, .float .f64 b.f, .string b.s, .slice p2 l2 c2] 28)) w4.heap.size ⟨b.k, b.b, b.n, b.f, b.s, p2, l2, c2, b.xs⟩ from ⟨by simp, by simp, by simp, by simp, by simp, by simp⟩)
    have HL5 := Lib.hid (HL4.out.alloc HL4.out.size (.cells #[.int .i64 b.k, .bool b.b, .int .i64 b.n, .float .f64 b.f, .string b.s, .slice p2 l2 c2] 28))
    have HA5 := Lib.hid (HA4.out.below ((Below.refl _ _).alloc (Nat.le_refl _) (.cells #[.int .i64 b.k, .bool b.b, .int .i64 b.n, .float .f64 b.f, .string b.s, .slice p2 l2 c2] 28)))
    have HB8 := Lib.hid (HB7.out.below ((Below.refl _ _).alloc (Nat.le_refl _) (.cells #[.int .i64 b.k, .bool b.b, .int .i64 b.n, .float .f64 b.f, .string b.s, .slice p2 l2 c2] 28)))
    clear HX4 HL4 HA4 HB7
    have hx := HX5.out
    simp only [BoxOf] at hx
    obtain ⟨x0, x1, x2, x3, x4, x5⟩ := hx
    go_wp2_with fail
    clear x0 x1 x2 x3 x4 x5
    obtain ⟨n4, hn4⟩ : ∃ n4, n4 = w4.heap.size := ⟨_, rfl⟩
    rw [← hn4] at HY5
    simp only [← hn4]
    clear hn4
    refine (zzType ⟨a.k, a.b, a.n, a.f, a.s, p1, l1, c1, a.xs⟩ _ HA5.out).mono ?_
    rintro e w5 ⟨rfl, hb5⟩
    have HX6 := Lib.hid (HX5.out.below hb5)
    have hy := HY5.out.below hb5
    simp only [BoxOf] at hy
    obtain ⟨y0, y1, y2, y3, y4, y5⟩ := hy
    have HY6 := Lib.hid (HY5.out.below hb5)
    have HL6 := Lib.hid (HL5.out.trans (hb5.mono HL5.out.size))
    have HA6 := Lib.hid (HA5.out.below hb5)
    have HB9 := Lib.hid (HB8.out.below hb5)
    clear hb5 HX5 HY5 HL5 HA5 HB8
    go_wp2_with fail
    clear y0 y1 y2 y3 y4 y5
    refine (zzType ⟨b.k, b.b, b.n, b.f, b.s, p2, l2, c2, b.xs⟩ _ HB9.out).mono ?_
    rintro e w6 ⟨rfl, hb6⟩
    have hx := HX6.out.below hb6
    simp only [BoxOf] at hx
    obtain ⟨x0, x1, x2, x3, x4, x5⟩ := hx
    have hy := HY6.out.below hb6
    simp only [BoxOf] at hy
    obtain ⟨y0, y1, y2, y3, y4, y5⟩ := hy
    have HL7 := Lib.hid (HL6.out.trans (hb6.mono HL6.out.size))
    have HA7 := Lib.hid (HA6.out.below hb6)
    have HB10 := Lib.hid (HB9.out.below hb6)
    clear hb6 HX6 HY6 HL6 HA6 HB9
    go_wp2_with fail
    clear x0 x1 x2 x3 x4 x5 y0 y1 y2 y3 y4 y5
    refine (zzCmp ⟨a.k, a.b, a.n, a.f, a.s, p1, l1, c1, a.xs⟩ ⟨b.k, b.b, b.n, b.f, b.s, p2, l2, c2, b.xs⟩ _ HA7.out HB10.out).mono ?_
    rintro e w7 ⟨rfl, hb7⟩
    have HL8 := Lib.hid (HL7.out.trans (hb7.mono HL7.out.size))
    clear hb7 HL7 HA7 HB10
    have HP := Lib.hid (X.cmp_idx (V.x ⟨a.k, a.b, a.n, a.f, a.s, p1, l1, c1, a.xs⟩) (V.x ⟨b.k, b.b, b.n, b.f, b.s, p2, l2, c2, b.xs⟩))
    generalize (V.x ⟨a.k, a.b, a.n, a.f, a.s, p1, l1, c1, a.xs⟩).cmp (V.x ⟨b.k, b.b, b.n, b.f, b.s, p2, l2, c2, b.xs⟩) = c at HP ⊢
    generalize (V.x ⟨a.k, a.b, a.n, a.f, a.s, p1, l1, c1, a.xs⟩).idx = i at HP ⊢
    generalize (V.x ⟨b.k, b.b, b.n, b.f, b.s, p2, l2, c2, b.xs⟩).idx = j at HP ⊢
    rcases Int.lt_trichotomy i j with hij | hij | hij
    · obtain rfl := HP.out.2.1 hij
      clear HP
      go_wp2_with fail
      go_ret
      exact ⟨rfl, HL8.out⟩
    · subst hij
      clear HP
      by_cases hc : (c == 0) = true
      · go_wp2_with fail
        go_ret
        exact ⟨rfl, HL8.out⟩
      · have hc' : (c == 0) = false := by simpa using hc
        clear hc
        go_wp2_with fail
        go_ret
        exact ⟨rfl, HL8.out⟩
    · obtain rfl := HP.out.2.2 hij
      clear HP
      go_wp2_with fail
      go_ret
      exact ⟨rfl, HL8.out⟩
theorem law_TI (w : World) (a1 : Int) (_ : -9223372036854775808 ≤ a1 ∧ a1 ≤ 9223372036854775807) (a2 : Bool) (a3 : Int) (_ : -9223372036854775808 ≤ a3 ∧ a3 ≤ 9223372036854775807) (a4 : Nat) (_ : (Lit.float .f64 a4).wf = true) (a5 : ByteArray) (hs : (a5.size : Int) ≤ 9223372036854775807)
    (a6 : List Int) (p6 : Option Addr) (c6 : Nat) (ha : Ints w (.slice p6 a6.length c6) a6) (hl : (a6.length : Int) ≤ 9223372036854775807) (_ : ∀ x ∈ a6, -9223372036854775808 ≤ x ∧ x ≤ 9223372036854775807)
    (b1 : Int) (_ : -9223372036854775808 ≤ b1 ∧ b1 ≤ 9223372036854775807) (b2 : Bool) (b3 : Int) (_ : -9223372036854775808 ≤ b3 ∧ b3 ≤ 9223372036854775807) (b4 : Nat) (_ : (Lit.float .f64 b4).wf = true) (b5 : ByteArray) (ht : (b5.size : Int) ≤ 9223372036854775807)
    (b6 : List Int) (q6 : Option Addr) (d6 : Nat) (hb : Ints w (.slice q6 b6.length d6) b6) (hm : (b6.length : Int) ≤ 9223372036854775807) (_ : ∀ x ∈ b6, -9223372036854775808 ≤ x ∧ x ≤ 9223372036854775807) :
    Calls Tryz.prog 3 #[.int .i64 a1, .bool a2, .int .i64 a3, .float .f64 a4, .string a5, .slice p6 a6.length c6, .int .i64 b1, .bool b2, .int .i64 b3, .float .f64 b4, .string b5, .slice q6 b6.length d6] w fun e w' => e = .returned (.bool true) ∧ Below w.heap.size w w' := by
  by_cases h : (a5.size : Int) + a6.length + b5.size + b6.length ≤ 1048576
  · exact lawTI_yes ⟨a1, a2, a3, a4, a5, p6, a6.length, c6, a6⟩ ⟨b1, b2, b3, b4, b5, q6, b6.length, d6, b6⟩ w h ⟨ha, by show (a6.length : Int) ≤ _; omega⟩ ⟨hb, by show (b6.length : Int) ≤ _; omega⟩
  · exact lawTI_no ⟨a1, a2, a3, a4, a5, p6, a6.length, c6, a6⟩ ⟨b1, b2, b3, b4, b5, q6, b6.length, d6, b6⟩ w h hs hl ht hm
end Go.Proofs.YtmfigefooicgiaaGreatDoor
