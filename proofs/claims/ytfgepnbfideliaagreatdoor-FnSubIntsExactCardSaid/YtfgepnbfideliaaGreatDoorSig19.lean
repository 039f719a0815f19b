/- Subtraction of ints that does not fit: a big.Int. -/
import Derived.Test.YtfgepnbfideliaaGreatDoorSif19
namespace Go.Proofs.YtfgepnbfideliaaGreatDoor
open Go.RowKit
set_option maxRecDepth 100000
set_option maxHeartbeats 4000000
theorem rowIs_below {w w' : World} {b n B : Nat} {t : TypeId} {f : Nat → Value} (h : w.rowIs b t n f) (hb : Below B w w') (hB : b < B) : w'.rowIs b t n f := by
  obtain ⟨c', e1, e2, e3⟩ := h
  exact ⟨c', (hb.block b hB).trans e1, e2, e3⟩
/-- A new big.Int of one word. -/
def Newed (neg : Bool) (s : Int) (w : World) (e : Ending) (w' : World) : Prop :=
  e = .returned (.pointer (some ⟨w.heap.size + 1, 0, none⟩)) ∧ w'.heap.size = w.heap.size + 2 ∧ w'.rowIs (w.heap.size + 1) 80 2 (bigF neg (.slice (some ⟨w.heap.size, 0, none⟩) 1 1)) ∧ w'.cell? ⟨w.heap.size, 0, none⟩ = some (.int .u64 s) ∧ Below w.heap.size w w'
theorem newed_of (neg : Bool) (s : Int) (w : World) : Newed neg s w (.returned (.pointer (some ⟨w.heap.size + 1, 0, none⟩))) ((w.alloc (.cells #[.int .u64 s] 70)).alloc (.cells #[.bool neg, .slice (some ⟨w.heap.size, 0, none⟩) 1 1] 80)) := by
  have b1 : Below w.heap.size w (w.alloc (.cells #[.int .u64 s] 70)) := (Below.refl _ _).alloc (Nat.le_refl _) _
  have hz : (w.alloc (.cells #[.int .u64 s] 70)).heap.size = w.heap.size + 1 := by simp
  have b2 : Below (w.heap.size + 1) (w.alloc (.cells #[.int .u64 s] 70)) ((w.alloc (.cells #[.int .u64 s] 70)).alloc (.cells #[.bool neg, .slice (some ⟨w.heap.size, 0, none⟩) 1 1] 80)) := (Below.refl _ _).alloc (by rw [hz]; exact Nat.le_refl _) _
  have c1 : (w.alloc (.cells #[.int .u64 s] 70)).cell? ⟨w.heap.size, 0, none⟩ = some (.int .u64 s) := by simp
  refine ⟨rfl, by simp, ?_, ?_, b1.trans (b2.mono (by omega))⟩
  · have h := World.rowIs_alloc (w.alloc (.cells #[.int .u64 s] 70)) #[.bool neg, .slice (some ⟨w.heap.size, 0, none⟩) 1 1] 80 (bigF neg (.slice (some ⟨w.heap.size, 0, none⟩) 1 1)) (by
      intro i hi
      rcases (show i = 0 ∨ i = 1 by simp at hi; omega) with rfl | rfl <;> rfl)
    rw [hz] at h
    exact h
  · rw [b2.cell (p := ⟨w.heap.size, 0, none⟩) (by show w.heap.size < _; omega)]; exact c1
theorem newP (x : Int) (w : World) (hx : -9223372036854775808 ≤ x ∧ x ≤ 9223372036854775807) (h : 0 < x) : Calls Tryz.prog 40 #[.int .i64 x] w (Newed false x w) := by
  refine (new_pos x w hx h).mono ?_
  rintro e w' ⟨rfl, rfl⟩
  exact newed_of false x w
theorem newN (x : Int) (w : World) (hx : -9223372036854775808 ≤ x ∧ x ≤ 9223372036854775807) (h : x < 0) : Calls Tryz.prog 40 #[.int .i64 x] w (Newed true (-x) w) := by
  refine (new_neg x w hx h).mono ?_
  rintro e w' ⟨rfl, rfl⟩
  exact newed_of true (-x) w
/-- What a subtraction hands out that does not fit. -/
def Big (neg : Bool) (s : Int) (w : World) (e : Ending) (w' : World) : Prop :=
  ∃ p B c, e = .returned (.iface 67 (.pointer (some ⟨p, 0, none⟩))) ∧ w'.rowIs p 80 2 (bigF neg (.slice (some ⟨B, 0, none⟩) 1 c)) ∧ w'.cell? ⟨B, 0, none⟩ = some (.int .u64 s) ∧ Below w.heap.size w w'
theorem sub1_fit (l r : Int) (w : World) (hr : -9223372036854775808 ≤ r ∧ r ≤ 9223372036854775807) (h : -9223372036854775808 ≤ l - r ∧ l - r ≤ 9223372036854775807) :
    Calls Tryz.prog 39 #[.int .i64 l, .int .i64 r] w fun e w' => e = .returned (.iface 3 (.int .i64 (l - r))) ∧ w = w' := by
  have hc : (decide (l - r ≤ l) == decide (0 ≤ r)) = true := by
    rw [show decide (l - r ≤ l) = decide (0 ≤ r) from by congr 1; apply propext; constructor <;> intro <;> omega]
    exact beq_self_eq_true _
  go_enter Tryz.func39, Tryz.ntmps39
  go_wp2_with fail
  go_ret
  exact ⟨rfl, rfl⟩
theorem sub1_two (l r : Int) (w : World) (nx : Bool) (a b v : Int) (hv : IntKind.i64.wrap (l - r) = v) (hc : (decide (v ≤ l) == decide (0 ≤ r)) = false) (h1 : 0 < a) (h2 : 0 < b) (h : a + b < 18446744073709551616)
    (hn1 : ∀ W, Calls Tryz.prog 40 #[.int .i64 l] W (Newed nx a W)) (hn2 : ∀ W, Calls Tryz.prog 40 #[.int .i64 r] W (Newed (!nx) b W)) :
    Calls Tryz.prog 39 #[.int .i64 l, .int .i64 r] w (Big nx (a + b) w) := by
  have H1 := Lib.hid (hn1 w)
  have H2 := Lib.hid hn2
  have HA := Lib.hid (And.intro h1 (And.intro h2 h))
  clear hn1 hn2 h1 h2 h
  go_enter Tryz.func39, Tryz.ntmps39
  go_wp2_with fail
  refine H1.out.mono ?_
  rintro e w1 ⟨rfl, k1, k2, k3, k4⟩
  have K1 := Lib.hid (And.intro k1 (And.intro k2 (And.intro k3 k4)))
  clear k1 k2 k3 k4
  go_wp2_with fail
  refine (H2.out w1).mono ?_
  rintro e w2 ⟨rfl, m1, m2, m3, m4⟩
  obtain ⟨k1, k2, k3, k4⟩ := K1.out
  have R1 := rowIs_below k2 m4 (by omega)
  have C1 : w2.cell? ⟨w.heap.size, 0, none⟩ = some (.int .u64 a) := by rw [m4.cell (p := ⟨w.heap.size, 0, none⟩) (by show w.heap.size < _; omega)]; exact k3
  have HS := Lib.hid (big_sub (w.heap.size + 1) (w1.heap.size + 1) nx (!nx) 1 1 1 1 (some ⟨w.heap.size, 0, none⟩) (some ⟨w1.heap.size, 0, none⟩) (a + b) w2 R1 m2 (by simp) (fun q => nat_add w.heap.size w1.heap.size a b (w2.drewN q) (by have := HA.out; omega) (by have := HA.out; omega) HA.out.2.2 (by have := HA.out; omega) (by rw [World.cell?_drewN]; exact C1) (by rw [World.cell?_drewN]; exact m3)))
  have HB := Lib.hid (show Below w.heap.size w w2 from k4.trans (m4.mono (by omega)))
  clear k1 k2 k3 k4 m1 m2 m3 m4 R1 C1 K1
  go_wp2_with fail
  refine HS.out.mono ?_
  rintro e w3 ⟨rfl, ⟨c, n1⟩, n2, n3⟩
  have HN := Lib.hid (And.intro n1 (And.intro n2 n3))
  clear n1 n2 n3
  go_wp2_with fail
  go_ret
  exact ⟨_, _, c, rfl, HN.out.1, HN.out.2.1, HB.out.trans (HN.out.2.2.mono (by omega))⟩
theorem sub1_nil (l r s v : Int) (w : World) (hv : IntKind.i64.wrap (l - r) = v) (hc : (decide (v ≤ l) == decide (0 ≤ r)) = false)
    (hn1 : Calls Tryz.prog 40 #[.int .i64 l] w fun e w' => e = .returned (.pointer (some ⟨w.heap.size, 0, none⟩)) ∧ w' = w.alloc (.cells #[.bool false, .slice none 0 0] 80))
    (hn2 : ∀ W, Calls Tryz.prog 40 #[.int .i64 r] W (Newed true s W)) : Calls Tryz.prog 39 #[.int .i64 l, .int .i64 r] w (Big false s w) := by
  have H1 := Lib.hid hn1
  have H2 := Lib.hid hn2
  clear hn1 hn2
  go_enter Tryz.func39, Tryz.ntmps39
  go_wp2_with fail
  refine H1.out.mono ?_
  rintro e w1 ⟨rfl, e1⟩
  have hz : w1.heap.size = w.heap.size + 1 := by rw [e1]; simp
  have R0 : w1.rowIs w.heap.size 80 2 (bigF false (.slice none 0 0)) := by
    rw [e1]
    exact World.rowIs_alloc w #[.bool false, .slice none 0 0] 80 (bigF false (.slice none 0 0)) (by
      intro i hi
      rcases (show i = 0 ∨ i = 1 by simp at hi; omega) with rfl | rfl <;> rfl)
  have B0 : Below w.heap.size w w1 := by rw [e1]; exact (Below.refl _ _).alloc (Nat.le_refl _) _
  have K1 := Lib.hid (And.intro hz (And.intro R0 B0))
  clear hz R0 B0 e1
  go_wp2_with fail
  refine (H2.out w1).mono ?_
  rintro e w2 ⟨rfl, m1, m2, m3, m4⟩
  obtain ⟨k1, k2, k4⟩ := K1.out
  have R1 := rowIs_below k2 m4 (by omega)
  have HS := Lib.hid (big_sub w.heap.size (w1.heap.size + 1) false true 0 0 1 1 none (some ⟨w1.heap.size, 0, none⟩) s w2 R1 m2 (by simp) (fun q => nat_add0 w1.heap.size s (w2.drewN q) (by rw [World.cell?_drewN]; exact m3)))
  have HB := Lib.hid (show Below w.heap.size w w2 from k4.trans (m4.mono (by omega)))
  clear k1 k2 k4 m1 m2 m3 m4 R1 K1
  go_wp2_with fail
  refine HS.out.mono ?_
  rintro e w3 ⟨rfl, ⟨c, n1⟩, n2, n3⟩
  have HN := Lib.hid (And.intro n1 (And.intro n2 n3))
  clear n1 n2 n3
  go_wp2_with fail
  go_ret
  exact ⟨_, _, c, rfl, HN.out.1, HN.out.2.1, HB.out.trans (HN.out.2.2.mono (by omega))⟩
/-- The three ways in which a difference does not fit. -/
theorem sub1_big (l r : Int) (w : World) (hl : -9223372036854775808 ≤ l ∧ l ≤ 9223372036854775807) (hr : -9223372036854775808 ≤ r ∧ r ≤ 9223372036854775807) (h : ¬ (-9223372036854775808 ≤ l - r ∧ l - r ≤ 9223372036854775807)) :
    Calls Tryz.prog 39 #[.int .i64 l, .int .i64 r] w (Big (decide (l - r < 0)) (if l - r < 0 then r - l else l - r) w) := by
  by_cases h0 : l - r < 0
  · rw [if_pos h0, decide_eq_true h0, show r - l = -l + r by omega]
    refine sub1_two l r w true (-l) r (l - r + 18446744073709551616) (by rw [IntKind.wrap_i64]; omega) ?_ (by omega) (by omega) (by omega) (fun W => newN l W hl (by omega)) (fun W => newP r W hr (by omega))
    rw [decide_eq_false (by omega), decide_eq_true (by omega)]; rfl
  · rw [if_neg h0, decide_eq_false h0]
    by_cases hz : l = 0
    · subst hz
      rw [show (0 : Int) - r = -r by omega]
      refine sub1_nil 0 r (-r) r w (by rw [IntKind.wrap_i64]; omega) ?_ (new_nil w) (fun W => newN r W hr (by omega))
      rw [decide_eq_true (by omega), decide_eq_false (by omega)]; rfl
    · rw [show l - r = l + -r by omega]
      refine sub1_two l r w false l (-r) (l - r - 18446744073709551616) (by rw [IntKind.wrap_i64]; omega) ?_ (by omega) (by omega) (by omega) (fun W => newP l W hl (by omega)) (fun W => newN r W hr (by omega))
      rw [decide_eq_true (by omega), decide_eq_false (by omega)]; rfl
theorem bts_any (a b : Int) (w : World) (f2 f3 f4 f5 f6 f7 : Value) (R : Value → World → Prop) (hq : Calls Tryz.prog 39 #[.int .i64 a, .int .i64 b] w fun e w' => ∃ v, e = .returned v ∧ Hid (R v w')) :
    Calls Tryz.prog 38 #[.iface 3 (.int .i64 a), .iface 3 (.int .i64 b), .func (.func 39) #[] #[], f2, f3, f4, f5, f6, f7] w fun e w' => ∃ v, e = .returned v ∧ Hid (R v w') := by
  have H := Lib.hid hq
  clear hq
  go_enter Tryz.func38, Tryz.ntmps38
  go_wp2_with fail
  refine H.out.mono ?_
  rintro e w1 ⟨v, rfl, HQ⟩
  go_wp2_with fail
  go_ret
  exact ⟨_, rfl, HQ⟩
theorem opSub_int (u : Value) (a b : Int) (w : World) (R : Value → World → Prop) (hq : Calls Tryz.prog 39 #[.int .i64 a, .int .i64 b] w fun e w' => ∃ v, e = .returned v ∧ Hid (R v w')) :
    Calls Tryz.prog 30 #[u, .iface 3 (.int .i64 a), .iface 3 (.int .i64 b)] w fun e w' => ∃ v, e = .returned v ∧ Hid (R v w') := by
  have H := Lib.hid (fun f2 f3 f4 f5 f6 f7 => bts_any a b w f2 f3 f4 f5 f6 f7 R hq)
  clear hq
  go_enter Tryz.func30, Tryz.ntmps30
  go_wp2_with fail
  refine (H.out _ _ _ _ _ _).mono ?_
  rintro e w1 ⟨v, rfl, HQ⟩
  go_wp2_with fail
  go_ret
  exact ⟨_, rfl, HQ⟩
theorem bits_big (p l c : Nat) (a : Option Addr) (w : World) (h1 : w.cell? ⟨p, 1, none⟩ = some (.slice a l c)) :
    Calls Tryz.prog 36 #[.pointer (some ⟨p, 0, none⟩)] w fun e w' => e = .returned (.slice a l c) ∧ w = w' := by
  go_enter Tryz.func36, Tryz.ntmps36
  go_wp2
  go_ret
  exact ⟨rfl, rfl⟩
theorem sign_big (p c : Nat) (neg : Bool) (a : Option Addr) (w : World) (h0 : w.cell? ⟨p, 0, none⟩ = some (.bool neg)) (h1 : w.cell? ⟨p, 1, none⟩ = some (.slice a 1 c)) :
    Calls Tryz.prog 37 #[.pointer (some ⟨p, 0, none⟩)] w fun e w' => e = .returned (.int .i64 (if neg then -1 else 1)) ∧ w = w' := by
  cases neg
  · go_enter Tryz.func37, Tryz.ntmps37
    go_wp2
    go_ret
    exact ⟨rfl, rfl⟩
  · go_enter Tryz.func37, Tryz.ntmps37
    go_wp2
    go_ret
    exact ⟨rfl, rfl⟩
theorem mkU1 (w : World) : (Instr.makeSlice 22 (.int .i64 1) (.int .i64 1)).run Tryz.prog w = .ok (.slice (some ⟨w.heap.size, 0, none⟩) 1 1) (w.alloc (.cells (madeCells #[.int .u64 0] 1) 25)) := by kernel_rfl
theorem kind_int (v : Int) (w : World) :
    Calls Tryz.prog 29 #[.iface 3 (.int .i64 v)] w fun e w' => e = .returned (.tuple #[.int .i64 1, .int .i64 v, .float .f64 0, .string ⟨#[]⟩, .bool false, .slice none 0 0]) ∧ w = w' := by
  go_enter Tryz.func29, Tryz.ntmps29
  go_wp2
  refine bodyPost_ret (v := .tuple #[.int .i64 1, .int .i64 v, .float .f64 0, .string ⟨#[]⟩, .bool false, .slice none 0 0]) (by simp [results, Tryz.results29, go_sem]) rfl ⟨rfl, rfl⟩
/-- What zzKind hands out of a big.Int of one word. -/
def KindBig (neg : Bool) (s : Int) (w : World) (e : Ending) (w' : World) : Prop := ∃ B, e = .returned (.tuple #[.int .i64 3, .int .i64 0, .float .f64 0, .string ⟨#[]⟩, .bool neg, .slice (some ⟨B, 0, none⟩) 1 1]) ∧ w'.cell? ⟨B, 0, none⟩ = some (.int .u64 s) ∧ Below w.heap.size w w'
theorem kind_big (p B c : Nat) (neg : Bool) (s : Int) (w : World) (hr : w.rowIs p 80 2 (bigF neg (.slice (some ⟨B, 0, none⟩) 1 c))) (hc : w.cell? ⟨B, 0, none⟩ = some (.int .u64 s)) :
    Calls Tryz.prog 29 #[.iface 67 (.pointer (some ⟨p, 0, none⟩))] w (KindBig neg s w) := by
  have h0 : w.cell? ⟨p, 0, none⟩ = some (.bool neg) := hr.cell (by omega)
  have h1 : w.cell? ⟨p, 1, none⟩ = some (.slice (some ⟨B, 0, none⟩) 1 c) := hr.cell (by omega)
  have H1 := Lib.hid (bits_big p 1 c (some ⟨B, 0, none⟩) w h1)
  have HM := mkU1 w
  have HR := Lib.hid (World.rowIs_made w (.int .u64 0) 1 25)
  have HB := Lib.hid (show Below w.heap.size w (w.alloc (.cells (madeCells #[.int .u64 0] 1) 25)) from (Below.refl _ _).alloc (Nat.le_refl _) _)
  have L1 := lt_of_cell' h0
  have L2 := lt_of_cell' hc
  go_enter Tryz.func29, Tryz.ntmps29
  go_wp2_with fail
  refine H1.out.mono ?_
  rintro e w1 ⟨rfl, rfl⟩
  go_wp2_with fail
  obtain ⟨W, hW⟩ : ∃ W, W = w.alloc (.cells (madeCells #[.int .u64 0] 1) 25) := ⟨_, rfl⟩
  rw [← hW] at HR HB ⊢
  have g0 : W.cell? ⟨w.heap.size, 0, none⟩ = some (.int .u64 0) := HR.out.cell (by omega)
  have g1 : W.frozen? ⟨w.heap.size, 0, none⟩ = false := HR.out.frozen 0
  have g2 : W.cell? ⟨B, 0, none⟩ = some (.int .u64 s) := by rw [HB.out.cell (p := ⟨B, 0, none⟩) L2]; exact hc
  have HG := Lib.hid (And.intro (show W.cell? ⟨p, 0, none⟩ = some (.bool neg) by rw [HB.out.cell (p := ⟨p, 0, none⟩) L1]; exact h0) (show W.cell? ⟨p, 1, none⟩ = some (.slice (some ⟨B, 0, none⟩) 1 c) by rw [HB.out.cell (p := ⟨p, 1, none⟩) L1]; exact h1))
  clear hr hc h0 h1 H1 HM hW
  refine wp_loop_rounds 2 ?_
  rw [rounds_succ]
  go_wp2_with fail
  rw [rounds_succ]
  go_wp2_with fail
  refine (sign_big p c neg (some ⟨B, 0, none⟩) _ (by rw [cell_far _ _ _ _ (show p ≠ w.heap.size by omega)]; exact HG.out.1) (by rw [cell_far _ _ _ _ (show p ≠ w.heap.size by omega)]; exact HG.out.2)).mono ?_
  rintro e w2 ⟨rfl, rfl⟩
  go_wp2_with fail
  all_goals
    first
      | (refine bodyPost_ret (v := .tuple #[.int .i64 3, .int .i64 0, .float .f64 0, .string ⟨#[]⟩, .bool false, .slice (some ⟨w.heap.size, 0, none⟩) 1 1]) (by simp [results, Tryz.results29, go_sem]) rfl ⟨w.heap.size, rfl, (HR.out.set 0 (.int .u64 s)).cell (by omega), Below.setCell (p := ⟨w.heap.size, 0, none⟩) HB.out (Nat.le_refl _) _⟩)
      | (refine bodyPost_ret (v := .tuple #[.int .i64 3, .int .i64 0, .float .f64 0, .string ⟨#[]⟩, .bool true, .slice (some ⟨w.heap.size, 0, none⟩) 1 1]) (by simp [results, Tryz.results29, go_sem]) rfl ⟨w.heap.size, rfl, (HR.out.set 0 (.int .u64 s)).cell (by omega), Below.setCell (p := ⟨w.heap.size, 0, none⟩) HB.out (Nat.le_refl _) _⟩)
/-- ZZSubInts where it fits, and where not. -/
theorem zz_fit (l r : Int) (w : World) (hr : -9223372036854775808 ≤ r ∧ r ≤ 9223372036854775807) (h : -9223372036854775808 ≤ l - r ∧ l - r ≤ 9223372036854775807) :
    Calls Tryz.prog 8 #[.int .i64 l, .int .i64 r] w fun e w' => e = .returned (.tuple #[.int .i64 1, .int .i64 (l - r), .bool false, .slice none 0 0]) ∧ w = w' := by
  have H := Lib.hid (opSub_int .nilIface l r w (fun v w' => v = .iface 3 (.int .i64 (l - r)) ∧ w = w') ((sub1_fit l r w hr h).mono fun e w' k => ⟨_, k.1, Lib.hid ⟨rfl, k.2⟩⟩))
  clear h hr
  go_enter Tryz.func8, Tryz.ntmps8
  go_wp2_with fail
  refine H.out.mono ?_
  rintro e w1 ⟨v, rfl, HK⟩
  obtain ⟨rfl, rfl⟩ := HK.out
  go_wp2_with fail
  refine (kind_int (l - r) w).mono ?_
  rintro e w1 ⟨rfl, rfl⟩
  go_wp2_with fail
  refine bodyPost_ret (v := .tuple #[.int .i64 1, .int .i64 (l - r), .bool false, .slice none 0 0]) (by simp [results, Tryz.results8, go_sem]) rfl ⟨rfl, rfl⟩
theorem zz_big (l r : Int) (w : World) (hl : -9223372036854775808 ≤ l ∧ l ≤ 9223372036854775807) (hr : -9223372036854775808 ≤ r ∧ r ≤ 9223372036854775807) (h : ¬ (-9223372036854775808 ≤ l - r ∧ l - r ≤ 9223372036854775807)) :
    Calls Tryz.prog 8 #[.int .i64 l, .int .i64 r] w fun e w' => ∃ B, e = .returned (.tuple #[.int .i64 3, .int .i64 0, .bool (decide (l - r < 0)), .slice (some ⟨B, 0, none⟩) 1 1]) ∧ w'.cell? ⟨B, 0, none⟩ = some (.int .u64 (if l - r < 0 then r - l else l - r)) ∧ Below w.heap.size w w' := by
  have h0 := sub1_big l r w hl hr h
  generalize decide (l - r < 0) = neg at *
  generalize (if l - r < 0 then r - l else l - r) = s at *
  have H := Lib.hid (opSub_int .nilIface l r w (fun v w' => Big neg s w (.returned v) w') (h0.mono fun e w' k => by
    obtain ⟨p, B, c, rfl, k2⟩ := k
    exact ⟨_, rfl, Lib.hid ⟨p, B, c, rfl, k2⟩⟩))
  clear h hr hl h0
  go_enter Tryz.func8, Tryz.ntmps8
  go_wp2_with fail
  refine H.out.mono ?_
  rintro e w1 ⟨v, rfl, HK⟩
  obtain ⟨p, B, c, e1, k2, k3, k4⟩ := HK.out
  cases e1
  have HB := Lib.hid k4
  have H2 := Lib.hid (kind_big p B c neg s w1 k2 k3)
  clear k2 k3 k4 HK H
  go_wp2_with fail
  refine H2.out.mono ?_
  rintro e w2 ⟨B2, rfl, m1, m2⟩
  have HM := Lib.hid (And.intro m1 m2)
  clear m1 m2 H2
  go_wp2_with fail
  refine bodyPost_ret (v := .tuple #[.int .i64 3, .int .i64 0, .bool neg, .slice (some ⟨B2, 0, none⟩) 1 1]) (by simp [results, Tryz.results8, go_sem]) rfl ⟨B2, rfl, HM.out.1, HB.out.trans (HM.out.2.mono HB.out.size)⟩
end Go.Proofs.YtfgepnbfideliaaGreatDoor
