/- zzStablePairs: two fresh rows, values and keys, in the stable order of the keys. -/
import Derived.Test.YtlhgfijpagfhpaaGreatDoorMod46
namespace Go.Proofs.YtlhgfijpagfhpaaGreatDoor
open Go.RowKit
set_option maxRecDepth 100000
set_option maxHeartbeats 8000000
/-- A row of ints in the order t. -/
def rowF (f : Nat → Int) (t : Nat → Nat) (k : Nat) : Value := .int .i64 (f (t k))
theorem rowF_step (f : Nat → Int) (t : Nat → Nat) {m i : Nat} (h : m < i) (k : Nat) :
    (if k = m + 1 then Value.int .i64 (f (t m)) else if k = m then .int .i64 (f (t i)) else rowF f (ins (m + 1) i t) k) = rowF f (ins m i t) k := by
  rw [show ins m i t = sw (m + 1) m (ins (m + 1) i t) from (ins_step (j := m + 1) (by omega) (by omega) t).symm]
  unfold rowF sw
  by_cases h1 : k = m
  · rw [if_neg (by omega), if_pos h1, if_pos h1]; unfold ins; rw [if_pos rfl]
  · by_cases h2 : k = m + 1
    · rw [if_pos h2, if_neg h1, if_pos h2]; unfold ins; rw [if_neg (by omega), if_neg (by omega)]
    · rw [if_neg h2, if_neg h1, if_neg h1, if_neg h2]
theorem rowF_lo (f : Nat → Int) (t : Nat → Nat) {m i : Nat} (h : m < i) : rowF f (ins (m + 1) i t) m = .int .i64 (f (t m)) := by
  unfold rowF ins; rw [if_neg (by omega), if_neg (by omega)]
theorem rowF_hi (f : Nat → Int) (t : Nat → Nat) (m i : Nat) : rowF f (ins (m + 1) i t) (m + 1) = .int .i64 (f (t i)) := by
  unfold rowF ins; rw [if_pos rfl]
theorem ints_some {W : World} {v : Value} {xs : List Int} (hv : Ints W v xs) (h0 : ¬ xs.length = 0) : ∃ b o c, v = .slice (some ⟨b, o, none⟩) xs.length c ∧ ∀ i, (h : i < xs.length) → W.cell? ⟨b, o + i, none⟩ = some (.int .i64 xs[i]) := by
  rcases hv with ⟨rfl, rfl⟩ | ⟨p0, cap, rfl, rfl⟩ | ⟨b, o, cap, rfl, hc⟩
  · exact (h0 rfl).elim
  · exact (h0 rfl).elim
  · exact ⟨b, o, cap, rfl, hc⟩
theorem ints_none {W : World} {v : Value} {xs : List Int} (hv : Ints W v xs) (h0 : xs.length = 0) : ∃ p c, v = .slice p 0 c := by
  rcases hv with ⟨rfl, rfl⟩ | ⟨p0, cap, rfl, rfl⟩ | ⟨b, o, cap, rfl, hc⟩
  · exact ⟨_, _, rfl⟩
  · exact ⟨_, _, rfl⟩
  · exact ⟨_, _, by rw [h0]⟩
theorem pairs (v x : Value) (vs ks : List Int) (W : World) (hv : Ints W v vs) (hx : Ints W x ks) (hl : vs.length = ks.length) (hn : (vs.length : Int) ≤ 1048576) :
    Calls Tryz.prog 20 #[v, x] W fun e w' => ∃ p c q d ys zs, e = .returned (.tuple #[.slice p (ys : List Int).length c, .slice q (zs : List Int).length d]) ∧ Ints w' (.slice p ys.length c) ys ∧ Ints w' (.slice q zs.length d) zs ∧
      (∃ t, Re 0 vs.length id t ∧ Srt (keyP ks vs.length) t 0 vs.length ∧ ys = Picked t vs ∧ zs = Picked t ks) ∧ Below W.heap.size W w' := by
  by_cases h0 : vs.length = 0
  · obtain ⟨p, c, rfl⟩ := ints_none hv h0
    obtain ⟨p2, c2, rfl⟩ := ints_none hx (by omega)
    have hx1 : vs = [] := List.length_eq_zero_iff.1 h0
    have hx2 : ks = [] := List.length_eq_zero_iff.1 (by omega)
    subst hx1; subst hx2
    clear hv hx h0 hl
    have hmk := mkInt 0 (by omega)
    simp only [Int.natCast_zero] at hmk
    go_enter Tryz.func20, Tryz.ntmps20
    go_wp2
    refine wp_loop_rounds 1 ?_
    rw [rounds_succ]
    go_wp2
    refine wp_loop_rounds 1 ?_
    rw [rounds_succ]
    go_wp2
    go_ret2
    exact ⟨_, _, _, _, [], [], rfl, Or.inr (Or.inl ⟨_, _, rfl, rfl⟩), Or.inr (Or.inl ⟨_, _, rfl, rfl⟩), ⟨id, Re.refl _ _ _, fun i j _ h1 h2 => by simp at h2, rfl, rfl⟩, ((Below.refl _ _).alloc (Nat.le_refl _) _).alloc (by simp) _⟩
  · obtain ⟨b, o, c, rfl, hc⟩ := ints_some hv h0
    obtain ⟨b2, o2, c2, rfl, hc2⟩ := ints_some hx (by omega)
    have HC := Lib.hid hc
    have HC2 := Lib.hid hc2
    have HL := Lib.hid hl
    have l1 : vs.length ≤ ks.length := by omega
    have l2 : ks.length ≤ vs.length := by omega
    clear hv hc hx hc2 hl
    have hmk := mkInt vs.length (by omega)
    go_enter Tryz.func20, Tryz.ntmps20
    go_wp2
    have HR := Lib.hid ((World.rowIs_made W (.int .i64 0) vs.length 3).alloc (.cells (madeCells #[.int .i64 0] vs.length) 3))
    have HR2 := Lib.hid (World.rowIs_made (W.alloc (.cells (madeCells #[.int .i64 0] vs.length) 3)) (.int .i64 0) vs.length 3)
    go_loopw [8] (fun i wr => ∃ k : Nat, k ≤ vs.length ∧ i = .int .i64 k ∧ Hid (Below W.heap.size W wr) ∧ Hid (wr.rowIs W.heap.size 3 vs.length (fillN vs k)) ∧ Hid (wr.rowIs (W.heap.size + 1) 3 vs.length (fillN ks k))) (fun i _ => vs.length - (intOf i).toNat)
    case atStart => exact ⟨0, Nat.zero_le _, rfl, Lib.hid (((Below.refl _ _).alloc (Nat.le_refl _) _).alloc (by simp) _), Lib.hid (HR.out.congr fun i _ => by unfold fillN; rw [if_neg (by omega)]), Lib.hid ((show World.rowIs _ (W.heap.size + 1) _ _ _ by have := HR2.out; simpa using this).congr fun i _ => by unfold fillN; rw [if_neg (by omega)])⟩
    case round =>
      obtain ⟨k, hk, rfl, HB, HW, HW2⟩ := hrel
      clear HR HR2 hmk
      by_cases hlt : k < vs.length
      · have ca : wr.cell? ⟨b, o + k, none⟩ = some (.int .i64 vs[k]) := by
          have h := HC.out k hlt
          rw [(HB.out.cell (p := ⟨b, o + k, none⟩) (lt_of_cell' h)), h]
        have cb : wr.cell? ⟨b2, o2 + k, none⟩ = some (.int .i64 ks[k]) := by
          have h := HC2.out k (by omega)
          rw [(HB.out.cell (p := ⟨b2, o2 + k, none⟩) (lt_of_cell' h)), h]
        have nb : b2 ≠ W.heap.size := by
          have := lt_of_cell' (HC2.out k (by omega)); omega
        have h1 : wr.cell? ⟨W.heap.size, k, none⟩ = some (fillN vs k k) := HW.out.cell hlt
        have h2 : wr.frozen? ⟨W.heap.size, k, none⟩ = false := HW.out.frozen k
        have h3 : wr.cell? ⟨W.heap.size + 1, k, none⟩ = some (fillN ks k k) := HW2.out.cell hlt
        have h4 : wr.frozen? ⟨W.heap.size + 1, k, none⟩ = false := HW2.out.frozen k
        have kg : (0 : Int) ≤ k := by omega
        have kx : k < ks.length := by omega
        go_wp2
        go_roundw
        case rel => exact ⟨k + 1, by omega, by go_num, Lib.hid (Below.setCell (HB.out.setCell (Nat.le_refl _) _) (Nat.le_succ _) _),
          Lib.hid (((HW.out.set k _).setOther (by show W.heap.size ≠ W.heap.size + 1; omega) _).congr fun i _ => fillN_step vs k hlt i),
          Lib.hid (((HW2.out.setOther (by show W.heap.size + 1 ≠ W.heap.size; omega) _).set k _).congr fun i _ => fillN_step ks k kx i)⟩
        case measure => simp [intOf]; omega
      · have HT := Lib.hid (show wr.rowIs W.heap.size 3 vs.length (rowF (fun x => vs.getD x 0) id) from HW.out.congr fun i hi => by unfold fillN rowF; rw [if_pos (by omega), id])
        have HT2 := Lib.hid (show wr.rowIs (W.heap.size + 1) 3 vs.length (rowF (keyP ks vs.length) id) from HW2.out.congr fun i hi => by unfold fillN rowF; rw [if_pos (by omega), id, keyP_in ks hi])
        clear HW HW2
        go_wp2
        go_loopw [9] (fun vi wr => ∃ (i : Nat) (t : Nat → Nat), vi = .int .i64 i ∧ 1 ≤ i ∧ i ≤ vs.length ∧ Hid (Re 0 i id t ∧ (∀ k, i ≤ k → t k = k) ∧ Srt (keyP ks vs.length) t 0 i) ∧ Hid (Below W.heap.size W wr) ∧ Hid (wr.rowIs W.heap.size 3 vs.length (rowF (fun x => vs.getD x 0) t)) ∧ Hid (wr.rowIs (W.heap.size + 1) 3 vs.length (rowF (keyP ks vs.length) t))) (fun i _ => vs.length - (intOf i).toNat)
        case atStart => exact ⟨1, id, rfl, by omega, by omega, Lib.hid ⟨Re.refl _ _ _, fun _ _ => rfl, fun i j _ h1 h2 => by omega⟩, HB, HT, HT2⟩
        case round =>
          clear HB HT HT2
          obtain ⟨i, t, rfl, hi1, hin, HI, HB, HW, HW2⟩ := hrel
          by_cases hlt2 : i < vs.length
          · go_wp2
            go_loopw [10] (fun vj wr => ∃ j : Nat, vj = .int .i64 j ∧ j ≤ i ∧ Hid (∀ k, j ≤ k → k < i → keyP ks vs.length (t i) < keyP ks vs.length (t k)) ∧ Hid (Below W.heap.size W wr) ∧ Hid (wr.rowIs W.heap.size 3 vs.length (rowF (fun x => vs.getD x 0) (ins j i t))) ∧ Hid (wr.rowIs (W.heap.size + 1) 3 vs.length (rowF (keyP ks vs.length) (ins j i t)))) (fun j _ => (intOf j).toNat)
            case atStart => exact ⟨i, rfl, Nat.le_refl _, Lib.hid (fun k h1 h2 => by omega), HB, Lib.hid (by rw [ins_self]; exact HW.out), Lib.hid (by rw [ins_self]; exact HW2.out)⟩
            case round =>
              clear HB HW HW2
              obtain ⟨j, rfl, hji, HK, HB, HW, HW2⟩ := hrel
              by_cases hj : 0 < j
              · obtain ⟨m, rfl⟩ : ∃ m, j = m + 1 := ⟨j - 1, by omega⟩
                obtain ⟨x, hx⟩ : ∃ x, x = keyP ks vs.length (t m) := ⟨_, rfl⟩
                obtain ⟨y, hy⟩ : ∃ y, y = keyP ks vs.length (t i) := ⟨_, rfl⟩
                obtain ⟨a, ha⟩ : ∃ a, a = vs.getD (t m) 0 := ⟨_, rfl⟩
                obtain ⟨e, he⟩ : ∃ e, e = vs.getD (t i) 0 := ⟨_, rfl⟩
                have c1 : wr.cell? ⟨W.heap.size + 1, m, none⟩ = some (.int .i64 x) := by rw [hx, ← rowF_lo (keyP ks vs.length) t (show m < i by omega)]; exact HW2.out.cell (by omega)
                have c2 : wr.cell? ⟨W.heap.size + 1, m + 1, none⟩ = some (.int .i64 y) := by rw [hy, ← rowF_hi (keyP ks vs.length) t m i]; exact HW2.out.cell (by omega)
                have c3 : wr.cell? ⟨W.heap.size, m, none⟩ = some (.int .i64 a) := by rw [ha, ← rowF_lo (fun x => vs.getD x 0) t (show m < i by omega)]; exact HW.out.cell (by omega)
                have c4 : wr.cell? ⟨W.heap.size, m + 1, none⟩ = some (.int .i64 e) := by rw [he, ← rowF_hi (fun x => vs.getD x 0) t m i]; exact HW.out.cell (by omega)
                have f1 : wr.frozen? ⟨W.heap.size + 1, m, none⟩ = false := HW2.out.frozen _
                have f2 : wr.frozen? ⟨W.heap.size + 1, m + 1, none⟩ = false := HW2.out.frozen _
                have f3 : wr.frozen? ⟨W.heap.size, m, none⟩ = false := HW.out.frozen _
                have f4 : wr.frozen? ⟨W.heap.size, m + 1, none⟩ = false := HW.out.frozen _
                have HX := Lib.hid hx
                have HY := Lib.hid hy
                have HA := Lib.hid ha
                have HE := Lib.hid he
                have m1 : m < vs.length := by omega
                have m2 : m + 1 < vs.length := by omega
                clear hx hy ha he
                by_cases hk : y < x
                · go_wp2
                  go_quiet (fail)
                  go_wp2
                  go_roundw
                  case rel =>
                    exact ⟨m, rfl, by omega, Lib.hid (fun k h1 h2 => by
                      by_cases e : k = m
                      · rw [e, ← HX.out, ← HY.out]; exact hk
                      · exact HK.out k (by omega) h2),
                      Lib.hid (Below.setCell (Below.setCell (Below.setCell (Below.setCell (show Below W.heap.size W (wr.drewN nq) from Below.trans HB.out ⟨rfl, rfl, rfl, Nat.le_refl _, fun _ _ => rfl⟩) (Nat.le_succ _) _) (Nat.le_succ _) _) (Nat.le_refl _) _) (Nat.le_refl _) _),
                      Lib.hid ((World.rowIs.set (World.rowIs.set (World.rowIs.setOther (World.rowIs.setOther (show (wr.drewN nq).rowIs W.heap.size 3 vs.length _ from HW.out) (by show W.heap.size ≠ W.heap.size + 1; omega) _) (by show W.heap.size ≠ W.heap.size + 1; omega) _) m _) (m + 1) _).congr fun k _ => by rw [HA.out, HE.out]; exact rowF_step (fun x => vs.getD x 0) t (by omega) k),
                      Lib.hid ((World.rowIs.setOther (World.rowIs.setOther (World.rowIs.set (World.rowIs.set (show (wr.drewN nq).rowIs (W.heap.size + 1) 3 vs.length _ from HW2.out) m _) (m + 1) _) (by show W.heap.size + 1 ≠ W.heap.size; omega) _) (by show W.heap.size + 1 ≠ W.heap.size; omega) _).congr fun k _ => by rw [HX.out, HY.out]; exact rowF_step (keyP ks vs.length) t (by omega) k)⟩
                  case measure => simp [intOf]
                · go_wp2
                  go_quiet (fail)
                  go_wp2
                  go_roundw
                  case rel =>
                    exact ⟨i + 1, _, by go_num, by omega, by omega, Lib.hid (ins_out HI.out hji HK.out (Or.inr (by rw [Nat.add_sub_cancel, ← HX.out, ← HY.out]; omega))), Lib.hid (Below.trans HB.out ⟨rfl, rfl, rfl, Nat.le_refl _, fun _ _ => rfl⟩), HW, HW2⟩
                  case measure => simp [intOf]; omega
              · go_wp2
                go_quiet (fail)
                go_wp2
                go_roundw
                case rel =>
                  exact ⟨i + 1, _, by go_num, by omega, by omega, Lib.hid (ins_out HI.out hji HK.out (Or.inl (by omega))), Lib.hid (Below.trans HB.out ⟨rfl, rfl, rfl, Nat.le_refl _, fun _ _ => rfl⟩), HW, HW2⟩
                case measure => simp [intOf]; omega
          · go_wp2
            go_ret2
            have hi : i = vs.length := by omega
            have hl := HL.out
            subst hi
            refine ⟨_, _, _, _, Picked t vs, Picked t ks, by rw [Picked.len, Picked.len, ← hl]; rfl, Or.inr (Or.inr ⟨W.heap.size, 0, vs.length, by rw [Picked.len], fun i hi => ?_⟩), Or.inr (Or.inr ⟨W.heap.size + 1, 0, vs.length, by rw [Picked.len, ← hl], fun i hi => ?_⟩), ⟨t, HI.out.1, HI.out.2.2, rfl, rfl⟩, HB.out⟩
            · rw [Picked.len] at hi
              rw [Nat.zero_add, HW.out.cell hi, Picked.get, rowF]
            · rw [Picked.len, ← hl] at hi
              rw [Nat.zero_add, HW2.out.cell hi, Picked.get, rowF, keyP_in ks (HI.out.1.lt hi)]
end Go.Proofs.YtlhgfijpagfhpaaGreatDoor
