/- symMerge_func. -/
import Derived.Test.YtlhgfijpagfhpaaGreatDoorSortW
import Derived.Test.YtlhgfijpagfhpaaGreatDoorSortM
namespace Go.Proofs.YtlhgfijpagfhpaaGreatDoor
open Go.Shelf Go.RowKit Go.Lib Go.Sort
set_option maxRecDepth 100000
set_option maxHeartbeats 2000000
variable {enc : Nat → Value} {W : World} {blk off n : Nat} {g sf : Nat} {lb sb : Array Value} {key : Nat → Int}
/-- What a merge leaves. -/
def Merged (enc : Nat → Value) (key : Nat → Int) (W : World) (blk off n : Nat) (s : Nat → Nat) (a b : Nat) (e : Ending) (w' : World) : Prop :=
  e = .returned (.tuple #[]) ∧ ∃ t, SW enc W blk off (arr n t) w' ∧ Re a b s t ∧ Srt key t a b
theorem merge_one (S : Sorts Tryz.prog g lb sf sb enc key blk off n W) {s : Nat → Nat} (hH : Holds enc W blk off (arr n s)) (a m b : Nat) (hm : m = a + 1) (h2 : a + 1 < b) (h3 : b ≤ n) (hr : Srt key s (a + 1) b) (hlr : ∀ j, a < j → j < b → s a < s j) :
    Calls Tryz.prog 58 #[.agg #[.func (.func g) #[] lb, .func (.func sf) #[] sb], .int .i64 a, .int .i64 m, .int .i64 b] W (Merged enc key W blk off n s a b) := by
  have hsm := S.small
  have B := Lib.hid (S.box hH 76)
  have eg := S.eg
  have HR := Lib.hid hr
  have HLR := Lib.hid hlr
  have t0 : ((m : Int) - a == 1) = true := by simp; omega
  have hm1 : m ≤ a + 1 := by omega
  have hm2 : a + 1 ≤ m := by omega
  clear S hH hr hlr hm
  go_enter Tryz.func58, Tryz.ntmps58
  go_wp2_with fail
  go_loopw [8, 9] (fun vi vj wr => ∃ i j : Nat, vi = .int .i64 i ∧ vj = .int .i64 j ∧ a + 1 ≤ i ∧ i ≤ j ∧ j ≤ b ∧ Hid (∀ k, a < k → k < i → key (s k) < key (s a)) ∧ Hid (∀ k, j ≤ k → k < b → key (s a) ≤ key (s k)) ∧
    Hid (SW enc (W.alloc (.cells #[.func (.func g) #[] lb, .func (.func sf) #[] sb] 76)) blk off (arr n s) wr) ∧
    wr.cell? ⟨W.heap.size, 0, none⟩ = some (.func (.func g) #[] lb) ∧ wr.cell? ⟨W.heap.size, 1, none⟩ = some (.func (.func sf) #[] sb)) (fun vi vj _ => (intOf vj).toNat - (intOf vi).toNat)
  case atStart => exact ⟨m, b, rfl, rfl, by omega, by omega, by omega, Lib.hid (fun k _ _ => by omega), Lib.hid (fun k _ _ => by omega), Lib.hid B.out.start, B.out.c0 _ _ B.out.start, B.out.c1 _ _ B.out.start⟩
  case round =>
    obtain ⟨i, j, rfl, rfl, hi, hij, hj, q1, q2, hw, c0, c1⟩ := hrel
    by_cases hl : i < j
    · go_wp2_with fail
      refine (B.out.S.lessAt hw.out ((i + j) / 2) a (by omega) rfl (by omega) (by omega)).mono ?_
      rintro e w2 ⟨rfl, q, rfl⟩
      have hw2 := Lib.hid (hw.out.drewN q)
      by_cases hk : key (s ((i + j) / 2)) < key (s a)
      · rw [decide_eq_true hk]
        go_wp2_with fail
        go_roundw
        case rel =>
          exact ⟨(i + j) / 2 + 1, j, by congr 1, rfl, by omega, by omega, hj, Lib.hid (fun k h1 h2 => by have := HR.out.le (i := k) (j := (i + j) / 2) (by omega) (by omega) (by omega); omega), q2, hw2, B.out.c0 _ _ hw2.out, B.out.c1 _ _ hw2.out⟩
        case measure => simp [intOf]; omega
      · rw [decide_eq_false hk]
        go_wp2_with fail
        go_roundw
        case rel =>
          exact ⟨i, (i + j) / 2, rfl, by congr 1, by omega, by omega, by omega, q1, Lib.hid (fun k h1 h2 => by have := HR.out.le (i := (i + j) / 2) (j := k) (by omega) (by omega) (by omega); omega), hw2, B.out.c0 _ _ hw2.out, B.out.c1 _ _ hw2.out⟩
        case measure => simp [intOf]; omega
    · have hji : j = i := by omega
      subst hji
      clear hl hij
      go_wp2_with fail
      go_loopw [11] (fun vk wr => ∃ k : Nat, vk = .int .i64 k ∧ a ≤ k ∧ k + 1 ≤ j ∧
        Hid (SW enc (W.alloc (.cells #[.func (.func g) #[] lb, .func (.func sf) #[] sb] 76)) blk off (arr n (insR a k s)) wr)) (fun vk _ => j - (intOf vk).toNat)
      case atStart => exact ⟨a, rfl, Nat.le_refl _, by omega, Lib.hid (by rw [insR_self]; exact hw.out)⟩
      case round =>
        clear hw
        obtain ⟨k, rfl, hk, hkj, hw⟩ := hrel
        have d1 := B.out.c1 _ _ hw.out
        by_cases hl : k + 1 < j
        · obtain ⟨W2, e2, hs⟩ := B.out.S.swapAt B.out.H hw.out (i := (k : Int)) (j := (k : Int) + 1) k (k + 1) rfl (by omega) (by omega) (by omega)
          rw [insR_step hk] at hs
          have hs := Lib.hid hs
          go_wp2
          go_roundw
          case rel => exact ⟨k + 1, by go_num, by omega, by omega, hs⟩
          case measure => simp [intOf]; omega
        · go_wp2
          refine bodyPost_ret (results_none rfl _ _ _) rfl ?_
          have hkj : k + 1 = j := by omega
          exact ⟨rfl, _, B.out.back _ _ hw.out, Re.insR s (Nat.le_refl _) hk (by omega), insR_srt HR.out hk (by omega) (fun x x1 x2 => Or.inl (q1.out x x1 (by omega))) (fun x x1 x2 => by
            have := q2.out x (by omega) x2
            have := HLR.out x (by omega) x2
            unfold bef; omega)⟩
theorem merge_last (S : Sorts Tryz.prog g lb sf sb enc key blk off n W) {s : Nat → Nat} (hH : Holds enc W blk off (arr n s)) (a m b : Nat) (hm : b = m + 1) (h2 : a + 1 < m) (h3 : b ≤ n) (hr : Srt key s a m) (hlr : ∀ j, a ≤ j → j < m → s j < s m) :
    Calls Tryz.prog 58 #[.agg #[.func (.func g) #[] lb, .func (.func sf) #[] sb], .int .i64 a, .int .i64 m, .int .i64 b] W (Merged enc key W blk off n s a b) := by
  have hsm := S.small
  have B := Lib.hid (S.box hH 76)
  have eg := S.eg
  have HR := Lib.hid hr
  have HLR := Lib.hid hlr
  have t0 : ((m : Int) - a == 1) = false := by simp; omega
  have t1 : ((b : Int) - m == 1) = true := by simp; omega
  have hm1 : b ≤ m + 1 := by omega
  have hm2 : m + 1 ≤ b := by omega
  clear S hH hr hlr hm
  go_enter Tryz.func58, Tryz.ntmps58
  go_wp2_with fail
  go_loopw [12, 13] (fun vi vj wr => ∃ i j : Nat, vi = .int .i64 i ∧ vj = .int .i64 j ∧ a ≤ i ∧ i ≤ j ∧ j ≤ m ∧ Hid (∀ k, a ≤ k → k < i → key (s k) ≤ key (s m)) ∧ Hid (∀ k, j ≤ k → k < m → key (s m) < key (s k)) ∧
    Hid (SW enc (W.alloc (.cells #[.func (.func g) #[] lb, .func (.func sf) #[] sb] 76)) blk off (arr n s) wr) ∧
    wr.cell? ⟨W.heap.size, 0, none⟩ = some (.func (.func g) #[] lb) ∧ wr.cell? ⟨W.heap.size, 1, none⟩ = some (.func (.func sf) #[] sb)) (fun vi vj _ => (intOf vj).toNat - (intOf vi).toNat)
  case atStart => exact ⟨a, m, rfl, rfl, by omega, by omega, by omega, Lib.hid (fun k _ _ => by omega), Lib.hid (fun k _ _ => by omega), Lib.hid B.out.start, B.out.c0 _ _ B.out.start, B.out.c1 _ _ B.out.start⟩
  case round =>
    obtain ⟨i, j, rfl, rfl, hi, hij, hj, q1, q2, hw, c0, c1⟩ := hrel
    by_cases hl : i < j
    · go_wp2_with fail
      refine (B.out.S.lessAt hw.out m ((i + j) / 2) rfl (by omega) (by omega) (by omega)).mono ?_
      rintro e w2 ⟨rfl, q, rfl⟩
      have hw2 := Lib.hid (hw.out.drewN q)
      by_cases hk : key (s m) < key (s ((i + j) / 2))
      · rw [decide_eq_true hk]
        go_wp2_with fail
        go_roundw
        case rel =>
          exact ⟨i, (i + j) / 2, rfl, by congr 1, by omega, by omega, by omega, q1, Lib.hid (fun k h1 h2 => by have := HR.out.le (i := (i + j) / 2) (j := k) (by omega) (by omega) (by omega); omega), hw2, B.out.c0 _ _ hw2.out, B.out.c1 _ _ hw2.out⟩
        case measure => simp [intOf]; omega
      · rw [decide_eq_false hk]
        go_wp2_with fail
        go_roundw
        case rel =>
          exact ⟨(i + j) / 2 + 1, j, by congr 1, rfl, by omega, by omega, hj, Lib.hid (fun k h1 h2 => by have := HR.out.le (i := k) (j := (i + j) / 2) (by omega) (by omega) (by omega); omega), q2, hw2, B.out.c0 _ _ hw2.out, B.out.c1 _ _ hw2.out⟩
        case measure => simp [intOf]; omega
    · have hji : j = i := by omega
      subst hji
      clear hl hij
      go_wp2_with fail
      go_loopw [15] (fun vk wr => ∃ k : Nat, vk = .int .i64 k ∧ j ≤ k ∧ k ≤ m ∧
        Hid (SW enc (W.alloc (.cells #[.func (.func g) #[] lb, .func (.func sf) #[] sb] 76)) blk off (arr n (ins k m s)) wr)) (fun vk _ => (intOf vk).toNat)
      case atStart => exact ⟨m, rfl, hj, Nat.le_refl _, Lib.hid (by rw [ins_self]; exact hw.out)⟩
      case round =>
        clear hw
        obtain ⟨k, rfl, hk, hkj, hw⟩ := hrel
        have d1 := B.out.c1 _ _ hw.out
        by_cases hl : j < k
        · obtain ⟨W2, e2, hs⟩ := B.out.S.swapAt B.out.H hw.out (i := (k : Int)) (j := (k : Int) - 1) k (k - 1) rfl (by omega) (by omega) (by omega)
          rw [ins_step (by omega) hkj] at hs
          have hs := Lib.hid hs
          go_wp2
          go_roundw
          case rel => exact ⟨k - 1, by congr 1; omega, by omega, by omega, hs⟩
          case measure => simp [intOf]; omega
        · go_wp2
          refine bodyPost_ret (results_none rfl _ _ _) rfl ?_
          have hkj : k = j := by omega
          have hb : b = m + 1 := by omega
          rw [hb]
          exact ⟨rfl, _, B.out.back _ _ hw.out, Re.ins s (by omega) (by omega) (by omega), ins_srt HR.out (by omega) (by omega) (fun x x1 x2 => by
            have := q1.out x x1 (by omega)
            have := HLR.out x x1 (by omega)
            unfold bef; omega) (fun x x1 x2 => Or.inl (q2.out x (by omega) x2))⟩
end Go.Proofs.YtlhgfijpagfhpaaGreatDoor
