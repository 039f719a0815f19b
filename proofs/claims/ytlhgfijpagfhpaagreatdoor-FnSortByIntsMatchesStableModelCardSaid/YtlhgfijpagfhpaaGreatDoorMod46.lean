/- zzInsertionSort: a fresh row, stably sorted. -/
import Derived.Test.YtlhgfijpagfhpaaGreatDoorSby46
import Derived.Test.YtlhgfijpagfhpaaGreatDoorSortU
namespace Go.Proofs.YtlhgfijpagfhpaaGreatDoor
open Go.RowKit
set_option maxRecDepth 100000
set_option maxHeartbeats 4000000
/-- The row in the order t. -/
def rowT (xs : List Int) (t : Nat → Nat) (k : Nat) : Value := .int .i64 (keyP xs xs.length (t k))
theorem keyP_in (xs : List Int) {n k : Nat} (h : k < n) : keyP xs n k = xs.getD k 0 := by unfold keyP; rw [if_pos h]
theorem ins_out {key : Nat → Int} {i j : Nat} {t : Nat → Nat} (H : Re 0 i id t ∧ (∀ k, i ≤ k → t k = k) ∧ Srt key t 0 i) (hji : j ≤ i) (hk : ∀ k, j ≤ k → k < i → key (t i) < key (t k)) (hlo : j = 0 ∨ ¬ key (t i) < key (t (j - 1))) :
    Re 0 (i + 1) id (ins j i t) ∧ (∀ k, i + 1 ≤ k → ins j i t k = k) ∧ Srt key (ins j i t) 0 (i + 1) := by
  refine ⟨(H.1.mono (Nat.le_refl _) (by omega)).trans (Re.ins t (Nat.zero_le _) hji (by omega)), fun k h => ?_, ins_srt H.2.2 (Nat.zero_le _) hji (fun k _ h => ?_) (fun k h1 h2 => Or.inl (hk k h1 h2))⟩
  · unfold ins; rw [if_neg (by omega), if_neg (by omega)]; exact H.2.1 k (by omega)
  · have a := H.2.2.le (i := k) (j := j - 1) (Nat.zero_le _) (by omega) (by omega)
    have b := H.1.lt (i := k) (by omega)
    have c := H.2.1 i (Nat.le_refl _)
    rcases hlo with h0 | h0
    · omega
    · unfold bef; omega
theorem rowT_step (xs : List Int) (t : Nat → Nat) {m i : Nat} (h : m < i) (k : Nat) :
    (if k = m + 1 then Value.int .i64 (keyP xs xs.length (t m)) else if k = m then .int .i64 (keyP xs xs.length (t i)) else rowT xs (ins (m + 1) i t) k) = rowT xs (ins m i t) k := by
  rw [show ins m i t = sw (m + 1) m (ins (m + 1) i t) from (ins_step (j := m + 1) (by omega) (by omega) t).symm]
  unfold rowT sw
  by_cases h1 : k = m
  · rw [if_neg (by omega), if_pos h1, if_pos h1]; unfold ins; rw [if_pos rfl]
  · by_cases h2 : k = m + 1
    · rw [if_pos h2, if_neg h1, if_pos h2]; unfold ins; rw [if_neg (by omega), if_neg (by omega)]
    · rw [if_neg h2, if_neg h1, if_neg h1, if_neg h2]
theorem model (v : Value) (xs : List Int) (W : World) (hv : Ints W v xs) (hn : (xs.length : Int) ≤ 1048576) :
    Calls Tryz.prog 15 #[v] W fun e w' => ∃ p c ys, e = .returned (.slice p (ys : List Int).length c) ∧ Ints w' (.slice p ys.length c) ys ∧ StableBy xs xs ys ∧ Below W.heap.size W w' := by
  by_cases h0 : xs.length = 0
  · have hv' : ∃ p c, v = .slice p 0 c := by
      rcases hv with ⟨rfl, rfl⟩ | ⟨p0, cap, rfl, rfl⟩ | ⟨b, o, cap, rfl, hc⟩
      · exact ⟨_, _, rfl⟩
      · exact ⟨_, _, rfl⟩
      · exact ⟨_, _, by rw [h0]⟩
    obtain ⟨p, c, rfl⟩ := hv'
    have hx : xs = [] := List.length_eq_zero_iff.1 h0
    subst hx
    clear hv h0
    have hmk := mkInt 0 (by omega)
    simp only [Int.natCast_zero] at hmk
    go_enter Tryz.func15, Tryz.ntmps15
    go_wp2
    refine wp_loop_rounds 1 ?_
    rw [rounds_succ]
    go_wp2
    refine wp_loop_rounds 1 ?_
    rw [rounds_succ]
    go_wp2
    go_ret
    exact ⟨_, _, [], rfl, Or.inr (Or.inl ⟨_, _, rfl, rfl⟩), ⟨id, Re.refl _ _ _, fun i j _ h1 h2 => by simp at h2, rfl⟩, (Below.refl _ _).alloc (Nat.le_refl _) _⟩
  · have hv' : ∃ b o c, v = .slice (some ⟨b, o, none⟩) xs.length c ∧ ∀ i, (h : i < xs.length) → W.cell? ⟨b, o + i, none⟩ = some (.int .i64 xs[i]) := by
      rcases hv with ⟨rfl, rfl⟩ | ⟨p0, cap, rfl, rfl⟩ | ⟨b, o, cap, rfl, hc⟩
      · exact (h0 rfl).elim
      · exact (h0 rfl).elim
      · exact ⟨b, o, cap, rfl, hc⟩
    obtain ⟨b, o, c, rfl, hc⟩ := hv'
    have HC := Lib.hid hc
    clear hv hc
    have hmk := mkInt xs.length (by omega)
    go_enter Tryz.func15, Tryz.ntmps15
    go_wp2
    have HR := Lib.hid (World.rowIs_made W (.int .i64 0) xs.length 3)
    go_loopw [4] (fun i wr => ∃ k : Nat, k ≤ xs.length ∧ i = .int .i64 k ∧ Hid (Below W.heap.size W wr) ∧ Hid (wr.rowIs W.heap.size 3 xs.length (fillN xs k))) (fun i _ => xs.length - (intOf i).toNat)
    case atStart => exact ⟨0, Nat.zero_le _, rfl, Lib.hid ((Below.refl _ _).alloc (Nat.le_refl _) _), Lib.hid (HR.out.congr fun i _ => by unfold fillN; rw [if_neg (by omega)])⟩
    case round =>
      obtain ⟨k, hk, rfl, HB, HW⟩ := hrel
      clear HR hmk
      by_cases hlt : k < xs.length
      · have hcell : wr.cell? ⟨b, o + k, none⟩ = some (.int .i64 xs[k]) := by
          have h := HC.out k hlt
          rw [(HB.out.cell (p := ⟨b, o + k, none⟩) (lt_of_cell' h)), h]
        have h1 : wr.cell? ⟨W.heap.size, k, none⟩ = some (fillN xs k k) := HW.out.cell hlt
        have h2 : wr.frozen? ⟨W.heap.size, k, none⟩ = false := HW.out.frozen k
        have kg : (0 : Int) ≤ k := by omega
        go_wp2
        go_roundw
        case rel => exact ⟨k + 1, by omega, by go_num, Lib.hid (HB.out.setCell (Nat.le_refl _) _), Lib.hid ((HW.out.set k _).congr fun i _ => fillN_step xs k hlt i)⟩
        case measure => simp [intOf]; omega
      · have HT := Lib.hid (show wr.rowIs W.heap.size 3 xs.length (rowT xs id) from HW.out.congr fun i hi => by unfold fillN rowT; rw [if_pos (by omega), id, keyP_in xs hi])
        clear HW
        go_wp2
        go_loopw [5] (fun vi wr => ∃ (i : Nat) (t : Nat → Nat), vi = .int .i64 i ∧ 1 ≤ i ∧ i ≤ xs.length ∧ Hid (Re 0 i id t ∧ (∀ k, i ≤ k → t k = k) ∧ Srt (keyP xs xs.length) t 0 i) ∧ Hid (Below W.heap.size W wr) ∧ Hid (wr.rowIs W.heap.size 3 xs.length (rowT xs t))) (fun i _ => xs.length - (intOf i).toNat)
        case atStart => exact ⟨1, id, rfl, by omega, by omega, Lib.hid ⟨Re.refl _ _ _, fun _ _ => rfl, fun i j _ h1 h2 => by omega⟩, HB, HT⟩
        case round =>
          clear HB HT
          obtain ⟨i, t, rfl, hi1, hin, HI, HB, HW⟩ := hrel
          by_cases hlt2 : i < xs.length
          · go_wp2
            go_loopw [6] (fun vj wr => ∃ j : Nat, vj = .int .i64 j ∧ j ≤ i ∧ Hid (∀ k, j ≤ k → k < i → keyP xs xs.length (t i) < keyP xs xs.length (t k)) ∧ Hid (Below W.heap.size W wr) ∧ Hid (wr.rowIs W.heap.size 3 xs.length (rowT xs (ins j i t)))) (fun j _ => (intOf j).toNat)
            case atStart => exact ⟨i, rfl, Nat.le_refl _, Lib.hid (fun k h1 h2 => by omega), HB, Lib.hid (by rw [ins_self]; exact HW.out)⟩
            case round =>
              clear HB HW
              obtain ⟨j, rfl, hji, HK, HB, HW⟩ := hrel
              by_cases hj : 0 < j
              · obtain ⟨m, rfl⟩ : ∃ m, j = m + 1 := ⟨j - 1, by omega⟩
                obtain ⟨x, hx⟩ : ∃ x, x = keyP xs xs.length (t m) := ⟨_, rfl⟩
                obtain ⟨y, hy⟩ : ∃ y, y = keyP xs xs.length (t i) := ⟨_, rfl⟩
                have e1 : rowT xs (ins (m + 1) i t) m = .int .i64 x := by unfold rowT ins; rw [if_neg (by omega), if_neg (by omega), hx]
                have e2 : rowT xs (ins (m + 1) i t) (m + 1) = .int .i64 y := by unfold rowT ins; rw [if_pos rfl, hy]
                have c1 : wr.cell? ⟨W.heap.size, m, none⟩ = some (.int .i64 x) := by rw [← e1]; exact HW.out.cell (by omega)
                have c2 : wr.cell? ⟨W.heap.size, m + 1, none⟩ = some (.int .i64 y) := by rw [← e2]; exact HW.out.cell (by omega)
                have f1 : wr.frozen? ⟨W.heap.size, m, none⟩ = false := HW.out.frozen _
                have f2 : wr.frozen? ⟨W.heap.size, m + 1, none⟩ = false := HW.out.frozen _
                have HX := Lib.hid hx
                have HY := Lib.hid hy
                have m1 : m < xs.length := by omega
                have m2 : m + 1 < xs.length := by omega
                clear hx hy e1 e2
                by_cases hk : y < x
                · go_wp2
                  go_quiet (fail)
                  go_wp2
                  go_roundw
                  case rel =>
                    exact ⟨m, rfl, by omega, Lib.hid (fun k h1 h2 => by
                      by_cases e : k = m
                      · rw [e, ← HX.out, ← HY.out]; exact hk
                      · exact HK.out k (by omega) h2), Lib.hid (Below.setCell (Below.setCell (show Below W.heap.size W (wr.drewN nq) from Below.trans HB.out ⟨rfl, rfl, rfl, Nat.le_refl _, fun _ _ => rfl⟩) (Nat.le_refl _) _) (Nat.le_refl _) _),
                      Lib.hid ((World.rowIs.set (World.rowIs.set (show (wr.drewN nq).rowIs W.heap.size 3 xs.length _ from HW.out) m _) (m + 1) _).congr fun k _ => by rw [HX.out, HY.out]; exact rowT_step xs t (by omega) k)⟩
                  case measure => simp [intOf]
                · go_wp2
                  go_quiet (fail)
                  go_wp2
                  go_roundw
                  case rel =>
                    exact ⟨i + 1, _, by go_num, by omega, by omega, Lib.hid (ins_out HI.out hji HK.out (Or.inr (by rw [Nat.add_sub_cancel, ← HX.out, ← HY.out]; omega))), Lib.hid (Below.trans HB.out ⟨rfl, rfl, rfl, Nat.le_refl _, fun _ _ => rfl⟩), HW⟩
                  case measure => simp [intOf]; omega
              · go_wp2
                go_quiet (fail)
                go_wp2
                go_roundw
                case rel =>
                  exact ⟨i + 1, _, by go_num, by omega, by omega, Lib.hid (ins_out HI.out hji HK.out (Or.inl (by omega))), Lib.hid (Below.trans HB.out ⟨rfl, rfl, rfl, Nat.le_refl _, fun _ _ => rfl⟩), HW⟩
                case measure => simp [intOf]; omega
          · go_wp2
            go_ret
            have hi : i = xs.length := by omega
            subst hi
            refine ⟨_, _, Picked t xs, by rw [Picked.len]; rfl, Or.inr (Or.inr ⟨W.heap.size, 0, xs.length, by rw [Picked.len], fun i hi => ?_⟩), ⟨t, HI.out.1, HI.out.2.2, rfl⟩, HB.out⟩
            rw [Picked.len] at hi
            rw [Nat.zero_add, HW.out.cell hi, Picked.get, rowT, keyP_in xs (HI.out.1.lt hi)]
end Go.Proofs.YtlhgfijpagfhpaaGreatDoor
