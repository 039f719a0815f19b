/- Big integers of one word: NewInt, and Sub where the signs differ. -/
import Derived.Test.YtfgepnbfideliaaGreatDoorSie19
import Derived.Test.YtfgepnbfideliaaGreatDoorInts
import Derived.Laws.Externs
import Derived.StillTailTactics
import Derived.Deep.QuietTactic
import Derived.BigQuiet
import Derived.Deep.RegionLaw
import Derived.Deep.RegionHeld3
namespace Go.Proofs.YtfgepnbfideliaaGreatDoor
open Go.RowKit
set_option maxRecDepth 100000
set_option maxHeartbeats 4000000
theorem add64_run (a b : Int) (w : World) (h1 : 0 ≤ a) (h2 : 0 ≤ b) (h : a + b < 18446744073709551616) :
    (callFunc 122 #[.int .u64 a, .int .u64 b, .int .u64 0]).run Tryz.prog w = .ok (.value (.tuple #[.int .u64 (a + b), .int .u64 0])) w := by
  rw [run_callFunc_extern Tryz.func122 (by kernel_rfl) (by kernel_rfl) (by kernel_rfl) (e := add64Entry) (by kernel_rfl), run_add64 a b 0 h1 h2 (by omega) (by omega)]
  rw [Int.add_zero, Int.emod_eq_of_lt (by omega) h, Int.ediv_eq_zero_of_lt (by omega) h]
  rfl
theorem bits_add (a b : Int) (w : World) (h1 : 0 ≤ a) (h2 : 0 ≤ b) (h : a + b < 18446744073709551616) :
    Calls Tryz.prog 108 #[.int .u64 a, .int .u64 b, .int .u64 0] w fun e w' => e = .returned (.tuple #[.int .u64 (a + b), .int .u64 0]) ∧ w = w' := by
  have HA := add64_run a b w h1 h2 h
  go_enter Tryz.func108, Tryz.ntmps108
  go_wp2
  go_ret2
  exact ⟨rfl, rfl⟩
theorem below_drewN (B : Nat) (w : World) (n : Nat) : Below B w (w.drewN n) := by
  have h := Below.refl B w
  exact ⟨h.os, h.tape, h.output, h.size, h.block⟩
def sumF (s : Int) (f : Nat → Value) (i : Nat) : Value := if i = 0 then .int .u64 s else f i
theorem addvvg (B n b1 b2 c0 c1 c2 : Nat) (a b : Int) (f : Nat → Value) (w : World) (h1 : 0 ≤ a) (h2 : 0 ≤ b) (h : a + b < 18446744073709551616)
    (hz : w.rowIs B 70 n f) (hn : 0 < n) (hx : w.cell? ⟨b1, 0, none⟩ = some (.int .u64 a)) (hy : w.cell? ⟨b2, 0, none⟩ = some (.int .u64 b)) :
    Calls Tryz.prog 107 #[.slice (some ⟨B, 0, none⟩) 1 c0, .slice (some ⟨b1, 0, none⟩) 1 c1, .slice (some ⟨b2, 0, none⟩) 1 c2] w fun e w' => e = .returned (.int .u64 0) ∧ w'.rowIs B 70 n (sumF (a + b) f) ∧ Below B w w' := by
  have HA := Lib.hid (fun W => bits_add a b W h1 h2 h)
  have HZ := Lib.hid hz
  have h3 : w.cell? ⟨B, 0, none⟩ = some (f 0) := hz.cell hn
  have h4 : w.frozen? ⟨B, 0, none⟩ = false := hz.frozen 0
  clear hz h1 h2 h
  go_enter Tryz.func107, Tryz.ntmps107
  go_wp2_with fail
  refine wp_loop_rounds 2 ?_
  rw [rounds_succ]
  go_wp2_with fail
  go_quiet ((go_at_call 108; exact Calls.quiet_of_same ((HA.out _).mono fun e w' h => ⟨h.1, h.2.symm⟩)))
  go_wp2_with fail
  rw [rounds_succ]
  go_wp2
  go_ret
  exact ⟨rfl, ((HZ.out.drew).set 0 _).congr fun i _ => rfl, Below.setCell (p := ⟨B, 0, none⟩) (below_drewN B w _) (Nat.le_refl B) _⟩
theorem addvv (B n b1 b2 c0 c1 c2 : Nat) (a b : Int) (f : Nat → Value) (w : World) (h1 : 0 ≤ a) (h2 : 0 ≤ b) (h : a + b < 18446744073709551616)
    (hz : w.rowIs B 70 n f) (hn : 0 < n) (hx : w.cell? ⟨b1, 0, none⟩ = some (.int .u64 a)) (hy : w.cell? ⟨b2, 0, none⟩ = some (.int .u64 b)) :
    Calls Tryz.prog 87 #[.slice (some ⟨B, 0, none⟩) 1 c0, .slice (some ⟨b1, 0, none⟩) 1 c1, .slice (some ⟨b2, 0, none⟩) 1 c2] w fun e w' => e = .returned (.int .u64 0) ∧ w'.rowIs B 70 n (sumF (a + b) f) ∧ Below B w w' := by
  have H := Lib.hid (addvvg B n b1 b2 c0 c1 c2 a b f w h1 h2 h hz hn hx hy)
  clear hz h1 h2 h hx hy
  go_enter Tryz.func87, Tryz.ntmps87
  go_wp2_with fail
  refine H.out.mono ?_
  rintro e w' ⟨rfl, k1, k2⟩
  have HK := Lib.hid (And.intro k1 k2)
  clear k1 k2
  go_wp2_with fail
  go_ret
  exact ⟨rfl, HK.out⟩
theorem norm2 (B : Nat) (d : Int) (w : World) (h0 : w.cell? ⟨B, 0, none⟩ = some (.int .u64 d)) (h1 : w.cell? ⟨B, 1, none⟩ = some (.int .u64 0)) (hd : (d == 0) = false) :
    Calls Tryz.prog 89 #[.slice (some ⟨B, 0, none⟩) 2 6] w fun e w' => e = .returned (.slice (some ⟨B, 0, none⟩) 1 6) ∧ w = w' := by
  go_enter Tryz.func89, Tryz.ntmps89
  go_wp2
  refine wp_loop_rounds 2 ?_
  rw [rounds_succ]
  go_wp2
  rw [rounds_succ]
  go_wp2
  go_ret
  exact ⟨rfl, rfl⟩
theorem mk26 (w : World) : (Instr.makeSlice 78 (.int .i64 2) (.int .i64 6)).run Tryz.prog w = .ok (.slice (some ⟨w.heap.size, 0, none⟩) 2 6) (w.alloc (.cells (madeCells #[.int .u64 0] 6) 70)) := by kernel_rfl
theorem mk11 (w : World) : (Instr.makeSlice 78 (.int .i64 1) (.int .i64 1)).run Tryz.prog w = .ok (.slice (some ⟨w.heap.size, 0, none⟩) 1 1) (w.alloc (.cells (madeCells #[.int .u64 0] 1) 70)) := by kernel_rfl
theorem make_two (p : Option Addr) (l c : Nat) (hc : (c : Int) ≤ 1) (w : World) :
    Calls Tryz.prog 86 #[.slice p l c, .int .i64 2] w fun e w' => e = .returned (.slice (some ⟨w.heap.size, 0, none⟩) 2 6) ∧ w' = w.alloc (.cells (madeCells #[.int .u64 0] 6) 70) := by
  have hm := mk26 w
  go_enter Tryz.func86, Tryz.ntmps86
  go_wp2
  go_ret
  exact ⟨rfl, rfl⟩
theorem make_one (w : World) :
    Calls Tryz.prog 86 #[.slice none 0 0, .int .i64 1] w fun e w' => e = .returned (.slice (some ⟨w.heap.size, 0, none⟩) 1 1) ∧ w' = w.alloc (.cells (madeCells #[.int .u64 0] 1) 70) := by
  have hm := mk11 w
  go_enter Tryz.func86, Tryz.ntmps86
  go_wp2
  go_ret
  exact ⟨rfl, rfl⟩
/-- What an addition hands out: one word, new. -/
def Added (s : Int) (n : Nat) (w : World) (e : Ending) (w' : World) : Prop := ∃ c, e = .returned (.slice (some ⟨n, 0, none⟩) 1 c) ∧ w'.cell? ⟨n, 0, none⟩ = some (.int .u64 s) ∧ Below n w w'
theorem nat_add (b1 b2 : Nat) (a b : Int) (w : World) (h1 : 0 ≤ a) (h2 : 0 ≤ b) (h : a + b < 18446744073709551616) (h0 : 0 < a + b)
    (hx : w.cell? ⟨b1, 0, none⟩ = some (.int .u64 a)) (hy : w.cell? ⟨b2, 0, none⟩ = some (.int .u64 b)) :
    Calls Tryz.prog 56 #[.slice (some ⟨b1, 0, none⟩) 1 1, .slice (some ⟨b1, 0, none⟩) 1 1, .slice (some ⟨b2, 0, none⟩) 1 1] w (Added (a + b) w.heap.size w) := by
  have L1 := lt_of_cell' hx
  have L2 := lt_of_cell' hy
  have HM := Lib.hid (make_two (some ⟨b1, 0, none⟩) 1 1 (by omega) w)
  have HR := Lib.hid (World.rowIs_made w (.int .u64 0) 6 70)
  have HB := Lib.hid (show Below w.heap.size w (w.alloc (.cells (madeCells #[.int .u64 0] 6) 70)) from (Below.refl _ _).alloc (Nat.le_refl _) _)
  have HV := Lib.hid (fun q => addvv w.heap.size 6 b1 b2 6 1 1 a b (fun _ => .int .u64 0) ((w.alloc (.cells (madeCells #[.int .u64 0] 6) 70)).drewN q) h1 h2 h (HR.out.drew) (by omega) (by rw [World.cell?_drewN, HB.out.cell (p := ⟨b1, 0, none⟩) L1, hx]) (by rw [World.cell?_drewN, HB.out.cell (p := ⟨b2, 0, none⟩) L2, hy]))
  have H0 := Lib.hid h0
  clear h1 h2 h hx hy L1 L2 h0
  go_enter Tryz.func56, Tryz.ntmps56
  go_wp2_with fail
  refine HM.out.mono ?_
  rintro e w1 ⟨rfl, e1⟩
  rw [← e1] at HR HB HV
  clear e1
  go_wp2_with fail
  go_still_tail 9, (by kernel_rfl)
  go_wp2_with fail
  refine (HV.out _).mono ?_
  rintro e w2 ⟨rfl, k1, k2⟩
  have HK := Lib.hid k1
  have HB2 := Lib.hid (Below.trans (Below.drew HB.out) k2)
  have c1 : w2.cell? ⟨w.heap.size, 1, none⟩ = some (.int .u64 0) := k1.cell (by omega)
  have f1 : w2.frozen? ⟨w.heap.size, 1, none⟩ = false := k1.frozen 1
  clear k1 k2 HV HR HB
  go_wp2_with fail
  have HW := Lib.hid (HK.out.set 1 (.int .u64 0))
  have g0 : (w2.setCell ⟨w.heap.size, 1, none⟩ (.int .u64 0)).cell? ⟨w.heap.size, 0, none⟩ = some (.int .u64 (a + b)) := HW.out.cell (by omega)
  have g1 : (w2.setCell ⟨w.heap.size, 1, none⟩ (.int .u64 0)).cell? ⟨w.heap.size, 1, none⟩ = some (.int .u64 0) := HW.out.cell (by omega)
  have HG := Lib.hid g0
  refine (norm2 w.heap.size (a + b) _ g0 g1 (by rw [beq_eq_false_iff_ne]; have := H0.out; omega)).mono ?_
  rintro e w3 ⟨rfl, rfl⟩
  clear g0 g1 c1 f1
  go_wp2_with fail
  go_ret
  exact ⟨6, rfl, HG.out, Below.setCell HB2.out (Nat.le_refl _) _⟩
theorem copy_one (w : World) (g b c : Nat) (d : Int) (hg : w.heap[g]? = some (.cells #[.int .u64 0] 70 (0, 0))) (hx : w.cell? ⟨b, 0, none⟩ = some (.int .u64 d)) :
    (Builtin.copy_ #[78, 78] 3 #[.slice (some ⟨g, 0, none⟩) 1 1, .slice (some ⟨b, 0, none⟩) 1 c]).run Tryz.prog w = .ok (.int .i64 1) (w.setCell ⟨g, 0, none⟩ (.int .u64 d)) := by
  rw [run_copy_row Tryz.prog w 78 78 3 70 g 0 1 1 ⟨b, 0, none⟩ 1 c #[.int .u64 0] 70 [.int .u64 d] Tryz.underlying78 (by kernel_rfl) hg rfl
    (fun j v h => by
      cases j with
      | zero => simp at h; rw [← h]; exact hx
      | succ j => simp at h) (by simp) (by simp [Value.oneCell'])]
  rw [setCell_eq_setRow w g 0 #[.int .u64 0] 70 (0, 0) (.int .u64 d) hg]
  rfl
theorem mc1 : madeCells #[Value.int .u64 0] 1 = #[Value.int .u64 0] := by kernel_rfl
theorem set_one (b c : Nat) (d : Int) (w : World) (hx : w.cell? ⟨b, 0, none⟩ = some (.int .u64 d)) :
    Calls Tryz.prog 85 #[.slice none 0 0, .slice (some ⟨b, 0, none⟩) 1 c] w (Added d w.heap.size w) := by
  have HM := Lib.hid (make_one w)
  have L := lt_of_cell' hx
  have HR := Lib.hid (World.rowIs_made w (.int .u64 0) 1 70)
  have HB := Lib.hid (show Below w.heap.size w (w.alloc (.cells (madeCells #[.int .u64 0] 1) 70)) from (Below.refl _ _).alloc (Nat.le_refl _) _)
  have hx2 : (w.alloc (.cells (madeCells #[.int .u64 0] 1) 70)).cell? ⟨b, 0, none⟩ = some (.int .u64 d) := by rw [HB.out.cell (p := ⟨b, 0, none⟩) L, hx]
  have c0 : (w.alloc (.cells (madeCells #[.int .u64 0] 1) 70)).cell? ⟨w.heap.size, 0, none⟩ = some (.int .u64 0) := HR.out.cell (by omega)
  have HC := Lib.hid (copy_one _ w.heap.size b c d (by rw [Go.Deep.blk_alloc_new, mc1]) hx2)
  clear hx L c0 hx2
  go_enter Tryz.func85, Tryz.ntmps85
  go_wp2_with fail
  refine HM.out.mono ?_
  rintro e w1 ⟨rfl, e1⟩
  rw [← e1] at HR HB HC
  clear e1
  have hcp := HC.out
  go_wp2
  go_ret
  exact ⟨1, rfl, (HR.out.set 0 (.int .u64 d)).cell (by omega), Below.setCell (p := ⟨w.heap.size, 0, none⟩) HB.out (Nat.le_refl _) _⟩
theorem nat_add0' (b : Nat) (d : Int) (w : World) (hx : w.cell? ⟨b, 0, none⟩ = some (.int .u64 d)) :
    Calls Tryz.prog 56 #[.slice none 0 0, .slice (some ⟨b, 0, none⟩) 1 1, .slice none 0 0] w (Added d w.heap.size w) := by
  have H := Lib.hid (set_one b 1 d w hx)
  clear hx
  go_enter Tryz.func56, Tryz.ntmps56
  go_wp2_with fail
  refine H.out.mono ?_
  rintro e w1 ⟨c, rfl, k⟩
  have HK := Lib.hid k
  clear k
  go_wp2_with fail
  go_ret
  exact ⟨c, rfl, HK.out⟩
theorem nat_add0 (b : Nat) (d : Int) (w : World) (hx : w.cell? ⟨b, 0, none⟩ = some (.int .u64 d)) :
    Calls Tryz.prog 56 #[.slice none 0 0, .slice none 0 0, .slice (some ⟨b, 0, none⟩) 1 1] w (Added d w.heap.size w) := by
  have H := Lib.hid (nat_add0' b d w hx)
  clear hx
  go_enter Tryz.func56, Tryz.ntmps56
  go_wp2_with fail
  refine H.out.mono ?_
  rintro e w1 ⟨c, rfl, k⟩
  have HK := Lib.hid k
  clear k
  go_wp2_with fail
  go_ret
  exact ⟨c, rfl, HK.out⟩
/-- The two cells of a big.Int. -/
def bigF (neg : Bool) (v : Value) (i : Nat) : Value := if i = 0 then .bool neg else v
theorem new_pos (x : Int) (w : World) (hx : -9223372036854775808 ≤ x ∧ x ≤ 9223372036854775807) (h : 0 < x) :
    Calls Tryz.prog 40 #[.int .i64 x] w fun e w' => e = .returned (.pointer (some ⟨w.heap.size + 1, 0, none⟩)) ∧ w' = (w.alloc (.cells #[.int .u64 x] 70)).alloc (.cells #[.bool false, .slice (some ⟨w.heap.size, 0, none⟩) 1 1] 80) := by
  go_enter Tryz.func40, Tryz.ntmps40
  go_wp2
  go_ret
  rw [decide_eq_false (by omega)]
  exact ⟨rfl, rfl⟩
theorem new_neg (x : Int) (w : World) (hx : -9223372036854775808 ≤ x ∧ x ≤ 9223372036854775807) (h : x < 0) :
    Calls Tryz.prog 40 #[.int .i64 x] w fun e w' => e = .returned (.pointer (some ⟨w.heap.size + 1, 0, none⟩)) ∧ w' = (w.alloc (.cells #[.int .u64 (-x)] 70)).alloc (.cells #[.bool true, .slice (some ⟨w.heap.size, 0, none⟩) 1 1] 80) := by
  go_enter Tryz.func40, Tryz.ntmps40
  go_wp2
  go_ret
  have e : IntKind.u64.wrap (-IntKind.u64.wrap x) = -x := by simp only [IntKind.wrap_u64]; omega
  rw [e]
  exact ⟨rfl, rfl⟩
theorem new_nil (w : World) :
    Calls Tryz.prog 40 #[.int .i64 0] w fun e w' => e = .returned (.pointer (some ⟨w.heap.size, 0, none⟩)) ∧ w' = w.alloc (.cells #[.bool false, .slice none 0 0] 80) := by
  go_enter Tryz.func40, Tryz.ntmps40
  go_wp2
  go_ret
  exact ⟨rfl, rfl⟩
/-- x.Sub(x, y) where the signs differ. -/
theorem cell_far (w : World) (a p : Addr) (u : Value) (h : p.block ≠ a.block) : (w.setCell a u).cell? p = w.cell? p := by
  unfold World.cell?
  rw [Go.Deep.blk_setCell_other _ _ _ _ h]
theorem big_sub (p1 p2 : Nat) (nx ny : Bool) (l1 c1 l2 c2 : Nat) (a1 a2 : Option Addr) (s : Int) (w : World) (r1 : w.rowIs p1 80 2 (bigF nx (.slice a1 l1 c1))) (r2 : w.rowIs p2 80 2 (bigF ny (.slice a2 l2 c2)))
    (hne : nx = !ny) (hadd : ∀ q, Calls Tryz.prog 56 #[.slice a1 l1 c1, .slice a1 l1 c1, .slice a2 l2 c2] (w.drewN q) (Added s w.heap.size (w.drewN q))) :
    Calls Tryz.prog 41 #[.pointer (some ⟨p1, 0, none⟩), .pointer (some ⟨p1, 0, none⟩), .pointer (some ⟨p2, 0, none⟩)] w fun e w' => e = .returned (.pointer (some ⟨p1, 0, none⟩)) ∧
      (∃ c, w'.rowIs p1 80 2 (bigF nx (.slice (some ⟨w.heap.size, 0, none⟩) 1 c))) ∧ w'.cell? ⟨w.heap.size, 0, none⟩ = some (.int .u64 s) ∧ Below p1 w w' := by
  subst hne
  have R1 := Lib.hid r1
  have HA := Lib.hid hadd
  have c10 : w.cell? ⟨p1, 0, none⟩ = some (.bool !ny) := r1.cell (by omega)
  have c11 : w.cell? ⟨p1, 1, none⟩ = some (.slice a1 l1 c1) := r1.cell (by omega)
  have c20 : w.cell? ⟨p2, 0, none⟩ = some (.bool ny) := r2.cell (by omega)
  have c21 : w.cell? ⟨p2, 1, none⟩ = some (.slice a2 l2 c2) := r2.cell (by omega)
  clear r1 r2 hadd
  go_enter Tryz.func41, Tryz.ntmps41
  go_wp2_with fail
  go_quiet (fail)
  go_wp2_with fail
  have HA2 := Lib.hid (show Calls Tryz.prog 56 #[.slice a1 l1 c1, .slice a1 l1 c1, .slice a2 l2 c2] (w.drewN nq).drew (Added s w.heap.size (w.drewN nq).drew) from HA.out (nq + 1))
  have d11 : (w.drewN nq).cell? ⟨p1, 1, none⟩ = some (.slice a1 l1 c1) := by rw [World.cell?_drewN]; exact c11
  have d21 : (w.drewN nq).cell? ⟨p2, 1, none⟩ = some (.slice a2 l2 c2) := by rw [World.cell?_drewN]; exact c21
  have HB0 := Lib.hid (below_drewN w.heap.size w nq)
  have L1 := lt_of_cell' c11
  have L2 := lt_of_cell' c21
  have R2 := Lib.hid (show (w.drewN nq).rowIs p1 80 2 (bigF (!ny) (.slice a1 l1 c1)) from R1.out)
  clear c10 c11 c20 c21 HA R1
  generalize w.drewN nq = W at *
  go_region_law (first | (go_simp; go_at_call 56; refine HA2.out.mono ?_; rintro e w1 ⟨c, rfl, k1, k2⟩
                          have HB := Lib.hid (show Below w.heap.size W.drew w1 from k2)
                          have HK := Lib.hid k1
                          have R3 := Lib.hid (show w1.rowIs p1 80 2 (bigF (!ny) (.slice a1 l1 c1)) from by
                            obtain ⟨c', e1, e2, e3⟩ := R2.out
                            exact ⟨c', (HB.out.block p1 L1).trans e1, e2, e3⟩)
                          have q0 : w1.cell? ⟨p1, 0, none⟩ = some (.bool !ny) := R3.out.cell (by omega)
                          have q1 : w1.cell? ⟨p1, 1, none⟩ = some (.slice a1 l1 c1) := R3.out.cell (by omega)
                          have q2 : w1.frozen? ⟨p1, 0, none⟩ = false := R3.out.frozen 0
                          have q3 : w1.frozen? ⟨p1, 1, none⟩ = false := R3.out.frozen 1
                          clear k1 k2))
  all_goals
    go_wp2_with fail
    go_ret
    refine ⟨rfl, ⟨c, ((R3.out.set 1 (.slice (some ⟨w.heap.size, 0, none⟩) 1 c)).set 0 (.bool !ny)).congr ?_⟩, ?_, ?_⟩
    · intro i hi
      unfold bigF
      rcases (show i = 0 ∨ i = 1 by omega) with rfl | rfl <;> rfl
    · rw [cell_far _ _ _ _ (show w.heap.size ≠ p1 by omega), cell_far _ _ _ _ (show w.heap.size ≠ p1 by omega)]
      exact HK.out
    · exact Below.setCell (p := ⟨p1, 0, none⟩) (Below.setCell (p := ⟨p1, 1, none⟩) (Below.trans (Below.drew (HB0.out.mono (Nat.le_of_lt L1))) (HB.out.mono (Nat.le_of_lt L1))) (Nat.le_refl p1) _) (Nat.le_refl p1) _
end Go.Proofs.YtfgepnbfideliaaGreatDoor
