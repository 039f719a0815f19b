/- swapRange_func and rotate_func. -/
import Derived.Test.YtlhgfijpagfhpaaGreatDoorSortB
import Derived.Test.YtlhgfijpagfhpaaGreatDoorInts
namespace Go.Proofs.YtlhgfijpagfhpaaGreatDoor
open Go.Shelf Go.RowKit Go.Lib Go.Sort
set_option maxRecDepth 100000
set_option maxHeartbeats 2000000
variable {enc : Nat → Value} {W : World} {blk off n : Nat} {g sf : Nat} {lb sb : Array Value} {key : Nat → Int}
theorem swapRange (S : Sorts Tryz.prog g lb sf sb enc key blk off n W) {s : Nat → Nat} (hH : Holds enc W blk off (arr n s)) (p q k : Nat) (h : p + k ≤ q) (hq : q + k ≤ n) :
    Calls Tryz.prog 81 #[.agg #[.func (.func g) #[] lb, .func (.func sf) #[] sb], .int .i64 p, .int .i64 q, .int .i64 k] W fun e w' => e = .returned (.tuple #[]) ∧ SW enc W blk off (arr n (swr p q k s)) w' := by
  have hsm := S.small
  have B := Lib.hid (S.box hH 76)
  clear S hH
  go_enter Tryz.func81, Tryz.ntmps81
  go_wp2
  go_loopw [8] (fun vi wr => ∃ i : Nat, vi = .int .i64 i ∧ i ≤ k ∧ Hid (SW enc (W.alloc (.cells #[.func (.func g) #[] lb, .func (.func sf) #[] sb] 76)) blk off (arr n (swr p q i s)) wr)) (fun vi _ => k - (intOf vi).toNat)
  case atStart => exact ⟨0, rfl, Nat.zero_le _, Lib.hid (by rw [swr_zero]; exact B.out.start)⟩
  case round =>
    obtain ⟨i, rfl, hik, hw⟩ := hrel
    have c1 := B.out.c1 _ _ hw.out
    by_cases hl : i < k
    · obtain ⟨W2, e2, hs⟩ := B.out.S.swapAt B.out.H hw.out (i := (p : Int) + i) (j := (q : Int) + i) (p + i) (q + i) (by omega) (by omega) (by omega) (by omega)
      rw [swr_step (by omega)] at hs
      have hs := Lib.hid hs
      go_wp2
      go_roundw
      case rel => exact ⟨i + 1, by go_num, by omega, hs⟩
      case measure => simp [intOf]; omega
    · go_wp2
      go_end0
      have : i = k := by omega
      subst this
      exact ⟨rfl, B.out.back _ _ hw.out⟩
theorem swapRangeZ (S : Sorts Tryz.prog g lb sf sb enc key blk off n W) {s : Nat → Nat} (hH : Holds enc W blk off (arr n s)) {x y z : Int} (p q k : Nat) (hx : x = p) (hy : y = q) (hz : z = k) (h : p + k ≤ q) (hq : q + k ≤ n) :
    Calls Tryz.prog 81 #[.agg #[.func (.func g) #[] lb, .func (.func sf) #[] sb], .int .i64 x, .int .i64 y, .int .i64 z] W fun e w' => e = .returned (.tuple #[]) ∧ SW enc W blk off (arr n (swr p q k s)) w' := by
  subst hx; subst hy; subst hz; exact swapRange S hH p q k h hq
theorem rotate (S : Sorts Tryz.prog g lb sf sb enc key blk off n W) {s : Nat → Nat} (hH : Holds enc W blk off (arr n s)) (a m b : Nat) (h1 : a < m) (h2 : m < b) (h3 : b ≤ n) :
    Calls Tryz.prog 67 #[.agg #[.func (.func g) #[] lb, .func (.func sf) #[] sb], .int .i64 a, .int .i64 m, .int .i64 b] W fun e w' => e = .returned (.tuple #[]) ∧ SW enc W blk off (arr n (rot a m b s)) w' := by
  have hsm := S.small
  have B := Lib.hid (S.box hH 76)
  clear S hH
  go_enter Tryz.func67, Tryz.ntmps67
  go_wp2
  go_loopw [8, 9] (fun vi vj wr => ∃ (i j : Nat) (t : Nat → Nat), vi = .int .i64 i ∧ vj = .int .i64 j ∧ 0 < i ∧ 0 < j ∧ i ≤ m - a ∧ j ≤ b - m ∧ Hid (rot (m - i) m (m + j) t = rot a m b s) ∧
    Hid (SW enc (W.alloc (.cells #[.func (.func g) #[] lb, .func (.func sf) #[] sb] 76)) blk off (arr n t) wr) ∧
    wr.cell? ⟨W.heap.size, 0, none⟩ = some (.func (.func g) #[] lb) ∧ wr.cell? ⟨W.heap.size, 1, none⟩ = some (.func (.func sf) #[] sb)) (fun vi vj _ => (intOf vi).toNat + (intOf vj).toNat)
  case atStart => exact ⟨m - a, b - m, s, by congr 1; omega, by congr 1; omega, by omega, by omega, Nat.le_refl _, Nat.le_refl _, Lib.hid (by congr 1 <;> omega), Lib.hid B.out.start, B.out.c0 _ _ B.out.start, B.out.c1 _ _ B.out.start⟩
  case round =>
    obtain ⟨i, j, t, rfl, rfl, hi, hj, him, hjm, hr, hw, c0, c1⟩ := hrel
    have S2 := Lib.hid (B.out.S.on hw.out)
    have H2 := Lib.hid (B.out.S.holds B.out.H hw.out)
    rcases Nat.lt_trichotomy i j with h | h | h
    · go_wp2_with fail
      refine (swapRangeZ S2.out H2.out (m - i) (m + j - i) i (by omega) (by omega) (by omega) (by omega) (by omega)).mono ?_
      rintro e w2 ⟨rfl, hs⟩
      have hs := Lib.hid (B.out.call hw.out hs)
      have d0 := B.out.c0 _ _ hs.out
      have d1 := B.out.c1 _ _ hs.out
      go_wp2_with fail
      go_roundw
      case rel => exact ⟨i, j - i, _, rfl, by congr 1; omega, by omega, by omega, by omega, by omega, Lib.hid (by rw [← hr.out, ← rot_lt (by omega) hi h]), hs, d0, d1⟩
      case measure => simp [intOf]; omega
    · go_wp2_with fail
      refine (swapRangeZ S2.out H2.out (m - i) m i (by omega) (by omega) (by omega) (by omega) (by omega)).mono ?_
      rintro e w2 ⟨rfl, hs⟩
      have hs := Lib.hid (B.out.call hw.out hs)
      go_wp2_with fail
      go_end0
      subst h
      exact ⟨rfl, B.out.back _ _ (by rw [← hr.out, rot_eq (by omega)]; exact hs.out)⟩
    · go_wp2_with fail
      refine (swapRangeZ S2.out H2.out (m - i) m j (by omega) (by omega) (by omega) (by omega) (by omega)).mono ?_
      rintro e w2 ⟨rfl, hs⟩
      have hs := Lib.hid (B.out.call hw.out hs)
      have d0 := B.out.c0 _ _ hs.out
      have d1 := B.out.c1 _ _ hs.out
      go_wp2_with fail
      go_roundw
      case rel => exact ⟨i - j, j, _, by congr 1; omega, rfl, by omega, by omega, by omega, by omega, Lib.hid (by rw [← hr.out, ← rot_gt (by omega) hj h]), hs, d0, d1⟩
      case measure => simp [intOf]; omega
end Go.Proofs.YtlhgfijpagfhpaaGreatDoor
