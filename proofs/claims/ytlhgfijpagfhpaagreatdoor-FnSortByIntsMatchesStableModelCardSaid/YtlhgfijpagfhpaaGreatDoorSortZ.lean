/- symMerge_func: the general case (printed by gen_merge.py), and the whole by the length. -/
import Derived.Test.YtlhgfijpagfhpaaGreatDoorSortY
namespace Go.Proofs.YtlhgfijpagfhpaaGreatDoor
open Go.Shelf Go.RowKit Go.Lib Go.Sort
set_option maxRecDepth 100000
set_option maxHeartbeats 40000000
variable {enc : Nat → Value} {W : World} {blk off n : Nat} {g sf : Nat} {lb sb : Array Value} {key : Nat → Int}
theorem rotateZ (S : Sorts Tryz.prog g lb sf sb enc key blk off n W) {s : Nat → Nat} (hH : Holds enc W blk off (arr n s)) {x y z : Int} (a m b : Nat) (hx : x = a) (hy : y = m) (hz : z = b) (h1 : a < m) (h2 : m < b) (h3 : b ≤ n) :
    Calls Tryz.prog 67 #[.agg #[.func (.func g) #[] lb, .func (.func sf) #[] sb], .int .i64 x, .int .i64 y, .int .i64 z] W fun e w' => e = .returned (.tuple #[]) ∧ SW enc W blk off (arr n (rot a m b s)) w' := by
  subst hx; subst hy; subst hz; exact rotate S hH a m b h1 h2 h3
/-- A merge of fewer than K places. -/
def MergeAt (enc : Nat → Value) (blk off n g sf : Nat) (lb sb : Array Value) (key : Nat → Int) (K : Nat) : Prop :=
  ∀ (W : World) (s : Nat → Nat) (x y z : Int) (a m b : Nat), x = a → y = m → z = b → b - a < K → Sorts Tryz.prog g lb sf sb enc key blk off n W → Holds enc W blk off (arr n s) → a < m → m < b → b ≤ n →
    Srt key s a m → Srt key s m b → (∀ i j, a ≤ i → i < m → m ≤ j → j < b → s i < s j) →
    Calls Tryz.prog 58 #[.agg #[.func (.func g) #[] lb, .func (.func sf) #[] sb], .int .i64 x, .int .i64 y, .int .i64 z] W (Merged enc key W blk off n s a b)
/-- The search's ends. -/
structure Ends (a m b lo hi : Nat) : Prop where
  lo : lo = if m > (a + b) / 2 then (a + b) / 2 + m - b else a
  hi : hi = if m > (a + b) / 2 then (a + b) / 2 else m
theorem merge_step (S : Sorts Tryz.prog g lb sf sb enc key blk off n W) {s : Nat → Nat} (hH : Holds enc W blk off (arr n s)) (a m b : Nat) (h1 : a + 1 < m) (h2 : m + 1 < b) (h3 : b ≤ n) (hl : Srt key s a m) (hr : Srt key s m b) (hlr : ∀ i j, a ≤ i → i < m → m ≤ j → j < b → s i < s j)
    (ih : MergeAt enc blk off n g sf lb sb key (b - a)) :
    Calls Tryz.prog 58 #[.agg #[.func (.func g) #[] lb, .func (.func sf) #[] sb], .int .i64 a, .int .i64 m, .int .i64 b] W (Merged enc key W blk off n s a b) := by
  have hsm := S.small
  have B := Lib.hid (S.box hH 76)
  have eg := S.eg
  have HL := Lib.hid hl
  have HR := Lib.hid hr
  have HLR := Lib.hid hlr
  have IH := Lib.hid ih
  have t0 : ((m : Int) - a == 1) = false := by simp; omega
  have t1 : ((b : Int) - m == 1) = false := by simp; omega
  have hlh : ∃ lo hi, Hid (Ends a m b lo hi) ∧ a ≤ lo ∧ lo ≤ hi ∧ hi ≤ m ∧ hi ≤ (a + b) / 2 ∧ (a + b) / 2 + m ≤ lo + b := by
    refine ⟨_, _, Lib.hid ⟨rfl, rfl⟩, ?_⟩
    split <;> omega
  obtain ⟨lo, hi, HE, k1, k2, k3, k4, k5⟩ := hlh
  clear S hH hl hr hlr ih
  go_enter Tryz.func58, Tryz.ntmps58
  by_cases hbig : (a + b) / 2 < m
  · have hlo : lo = (a + b) / 2 + m - b := by rw [HE.out.lo, if_pos hbig]
    have hhi : hi = (a + b) / 2 := by rw [HE.out.hi, if_pos hbig]
    have t2 : decide (((a : Int) + b) / 2 < (m : Int)) = true := by simp; omega
    have hlo1 := Nat.le_of_eq hlo
    have hlo2 := Nat.le_of_eq hlo.symm
    have hhi1 := Nat.le_of_eq hhi
    have hhi2 := Nat.le_of_eq hhi.symm
    clear hlo hhi
    go_wp2_with fail
    go_loopw [18, 19] (fun vi vj wr => ∃ i j : Nat, vi = .int .i64 i ∧ vj = .int .i64 j ∧ lo ≤ i ∧ i ≤ j ∧ j ≤ hi ∧ Hid (∀ c, lo ≤ c → c < i → key (s c) ≤ key (s ((a + b) / 2 + m - 1 - c))) ∧ Hid (∀ c, j ≤ c → c < hi → key (s ((a + b) / 2 + m - 1 - c)) < key (s c)) ∧
      Hid (SW enc (W.alloc (.cells #[.func (.func g) #[] lb, .func (.func sf) #[] sb] 76)) blk off (arr n s) wr) ∧
      wr.cell? ⟨W.heap.size, 0, none⟩ = some (.func (.func g) #[] lb) ∧ wr.cell? ⟨W.heap.size, 1, none⟩ = some (.func (.func sf) #[] sb)) (fun vi vj _ => (intOf vj).toNat - (intOf vi).toNat)
    case atStart => exact ⟨lo, hi, by congr 1; omega, by congr 1; omega, by omega, by omega, by omega, Lib.hid (fun k _ _ => by omega), Lib.hid (fun k _ _ => by omega), Lib.hid B.out.start, B.out.c0 _ _ B.out.start, B.out.c1 _ _ B.out.start⟩
    case round =>
      obtain ⟨i, j, rfl, rfl, hi1, hij, hj, q1, q2, hw, c0, c1⟩ := hrel
      by_cases hl : i < j
      · go_wp2_with fail
        refine (B.out.S.lessAt hw.out ((a + b) / 2 + m - 1 - (i + j) / 2) ((i + j) / 2) (by omega) (by omega) (by omega) (by omega)).mono ?_
        rintro e w2 ⟨rfl, q, rfl⟩
        have hw2 := Lib.hid (hw.out.drewN q)
        by_cases hk : key (s ((a + b) / 2 + m - 1 - (i + j) / 2)) < key (s ((i + j) / 2))
        · rw [decide_eq_true hk]
          go_wp2_with fail
          go_roundw
          case rel =>
            exact ⟨i, (i + j) / 2, rfl, by congr 1, by omega, by omega, by omega, q1, Lib.hid (fun c x1 x2 => by
              have y1 := HL.out.le (i := (i + j) / 2) (j := c) (by omega) x1 (by omega)
              have y2 := HR.out.le (i := (a + b) / 2 + m - 1 - c) (j := (a + b) / 2 + m - 1 - (i + j) / 2) (by omega) (by omega) (by omega)
              omega), hw2, B.out.c0 _ _ hw2.out, B.out.c1 _ _ hw2.out⟩
          case measure => simp [intOf]; omega
        · rw [decide_eq_false hk]
          go_wp2_with fail
          go_roundw
          case rel =>
            exact ⟨(i + j) / 2 + 1, j, by congr 1, rfl, by omega, by omega, hj, Lib.hid (fun c x1 x2 => by
              have y1 := HL.out.le (i := c) (j := (i + j) / 2) (by omega) (by omega) (by omega)
              have y2 := HR.out.le (i := (a + b) / 2 + m - 1 - (i + j) / 2) (j := (a + b) / 2 + m - 1 - c) (by omega) (by omega) (by omega)
              omega), q2, hw2, B.out.c0 _ _ hw2.out, B.out.c1 _ _ hw2.out⟩
          case measure => simp [intOf]; omega
      · have hji : i = j := by omega
        subst hji
        have C := Lib.hid (Cut.of (mid := (a + b) / 2) (start := i) (lo := lo) (hi := hi) (show a < m by omega) (show m < b by omega) rfl HE.out.lo HE.out.hi hi1 hj HL.out HR.out HLR.out q1.out q2.out)
        have i1 : a ≤ i := by omega
        have i2 : i ≤ m := by omega
        have i3 : i ≤ (a + b) / 2 := by omega
        have i4 : (a + b) / 2 + m ≤ i + b := by omega
        clear hl hij hi1 hj q1 q2
        by_cases hA : i < m
        · by_cases hB : i < (a + b) / 2
          · go_wp2_with fail
            refine (rotateZ (B.out.S.on hw.out) (B.out.S.holds B.out.H hw.out) i m ((a + b) / 2 + m - i) rfl rfl (by omega) hA (by omega) (by omega)).mono ?_
            rintro e w1 ⟨rfl, hs⟩
            have hw := Lib.hid (B.out.call hw.out hs)
            have c0 := B.out.c0 _ _ hw.out
            have c1 := B.out.c1 _ _ hw.out
            by_cases hC : a < i
            · go_wp2_with fail
              all_goals
                refine (IH.out _ (rot i m ((a + b) / 2 + m - i) s) _ _ _ a i ((a + b) / 2) rfl rfl (by omega) (by omega) (B.out.S.on hw.out) (B.out.S.holds B.out.H hw.out) (by omega) (by omega) (by omega) C.out.l1 C.out.l2 C.out.l12).mono ?_
                rintro e w2 ⟨rfl, u, hs, hu⟩
                have hu := Lib.hid hu
                have hw := Lib.hid (B.out.call hw.out hs)
                have c0 := B.out.c0 _ _ hw.out
                have c1 := B.out.c1 _ _ hw.out
                by_cases hD : ((a + b) / 2 + m - i) < b
                · go_wp2_with fail
                  all_goals
                    refine (IH.out _ u _ _ _ ((a + b) / 2) ((a + b) / 2 + m - i) b (by omega) (by omega) rfl (by omega) (B.out.S.on hw.out) (B.out.S.holds B.out.H hw.out) (by omega) (by omega) h3 (C.out.rr1 hu.out) (C.out.rr2 hu.out) (C.out.rr12 hu.out)).mono ?_
                    rintro e w3 ⟨rfl, v, hs, hv⟩
                    have hv := Lib.hid hv
                    have hw := Lib.hid (B.out.call hw.out hs)
                    go_wp2_with fail
                    all_goals
                      go_end0
                      exact ⟨rfl, _, B.out.back _ _ hw.out, C.out.join hu.out.1 hu.out.2 hv.out.1 hv.out.2⟩
                · go_wp2_with fail
                  all_goals
                    go_end0
                    exact ⟨rfl, _, B.out.back _ _ hw.out, C.out.join hu.out.1 hu.out.2 (Re.refl _ _ _) (C.out.right_edge' hu.out (by omega))⟩
            · have hu := Lib.hid (And.intro (Re.refl a ((a + b) / 2) (rot i m ((a + b) / 2 + m - i) s)) (C.out.left_edge (by omega)))
              by_cases hD : ((a + b) / 2 + m - i) < b
              · go_wp2_with fail
                all_goals
                  refine (IH.out _ (rot i m ((a + b) / 2 + m - i) s) _ _ _ ((a + b) / 2) ((a + b) / 2 + m - i) b (by omega) (by omega) rfl (by omega) (B.out.S.on hw.out) (B.out.S.holds B.out.H hw.out) (by omega) (by omega) h3 (C.out.rr1 hu.out) (C.out.rr2 hu.out) (C.out.rr12 hu.out)).mono ?_
                  rintro e w3 ⟨rfl, v, hs, hv⟩
                  have hv := Lib.hid hv
                  have hw := Lib.hid (B.out.call hw.out hs)
                  go_wp2_with fail
                  all_goals
                    go_end0
                    exact ⟨rfl, _, B.out.back _ _ hw.out, C.out.join hu.out.1 hu.out.2 hv.out.1 hv.out.2⟩
              · go_wp2_with fail
                all_goals
                  go_end0
                  exact ⟨rfl, _, B.out.back _ _ hw.out, C.out.join hu.out.1 hu.out.2 (Re.refl _ _ _) (C.out.right_edge' hu.out (by omega))⟩
          · have hrt : (rot i m ((a + b) / 2 + m - i) s) = s := rot_id_right (by omega) s (by omega)
            have hw := Lib.hid (show SW enc (W.alloc (.cells #[.func (.func g) #[] lb, .func (.func sf) #[] sb] 76)) blk off (arr n (rot i m ((a + b) / 2 + m - i) s)) wr by rw [hrt]; exact hw.out)
            clear hrt
            have hu := Lib.hid (And.intro (Re.refl a ((a + b) / 2) (rot i m ((a + b) / 2 + m - i) s)) (C.out.left_edge (by omega)))
            by_cases hD : ((a + b) / 2 + m - i) < b
            · go_wp2_with fail
              all_goals
                refine (IH.out _ (rot i m ((a + b) / 2 + m - i) s) _ _ _ ((a + b) / 2) ((a + b) / 2 + m - i) b (by omega) (by omega) rfl (by omega) (B.out.S.on hw.out) (B.out.S.holds B.out.H hw.out) (by omega) (by omega) h3 (C.out.rr1 hu.out) (C.out.rr2 hu.out) (C.out.rr12 hu.out)).mono ?_
                rintro e w3 ⟨rfl, v, hs, hv⟩
                have hv := Lib.hid hv
                have hw := Lib.hid (B.out.call hw.out hs)
                go_wp2_with fail
                all_goals
                  go_end0
                  exact ⟨rfl, _, B.out.back _ _ hw.out, C.out.join hu.out.1 hu.out.2 hv.out.1 hv.out.2⟩
            · go_wp2_with fail
              all_goals
                go_end0
                exact ⟨rfl, _, B.out.back _ _ hw.out, C.out.join hu.out.1 hu.out.2 (Re.refl _ _ _) (C.out.right_edge' hu.out (by omega))⟩
        · by_cases hB : i < (a + b) / 2
          · have hrt : (rot i m ((a + b) / 2 + m - i) s) = s := rot_id_left (by omega) s (by omega)
            have hw := Lib.hid (show SW enc (W.alloc (.cells #[.func (.func g) #[] lb, .func (.func sf) #[] sb] 76)) blk off (arr n (rot i m ((a + b) / 2 + m - i) s)) wr by rw [hrt]; exact hw.out)
            clear hrt
            by_cases hC : a < i
            · go_wp2_with fail
              all_goals
                refine (IH.out _ (rot i m ((a + b) / 2 + m - i) s) _ _ _ a i ((a + b) / 2) rfl rfl (by omega) (by omega) (B.out.S.on hw.out) (B.out.S.holds B.out.H hw.out) (by omega) (by omega) (by omega) C.out.l1 C.out.l2 C.out.l12).mono ?_
                rintro e w2 ⟨rfl, u, hs, hu⟩
                have hu := Lib.hid hu
                have hw := Lib.hid (B.out.call hw.out hs)
                have c0 := B.out.c0 _ _ hw.out
                have c1 := B.out.c1 _ _ hw.out
                go_wp2_with fail
                all_goals
                  go_end0
                  exact ⟨rfl, _, B.out.back _ _ hw.out, C.out.join hu.out.1 hu.out.2 (Re.refl _ _ _) (C.out.right_edge' hu.out (by omega))⟩
            · have hu := Lib.hid (And.intro (Re.refl a ((a + b) / 2) (rot i m ((a + b) / 2 + m - i) s)) (C.out.left_edge (by omega)))
              go_wp2_with fail
              all_goals
                go_end0
                exact ⟨rfl, _, B.out.back _ _ hw.out, C.out.join hu.out.1 hu.out.2 (Re.refl _ _ _) (C.out.right_edge' hu.out (by omega))⟩
          · have hrt : (rot i m ((a + b) / 2 + m - i) s) = s := rot_id_left (by omega) s (by omega)
            have hw := Lib.hid (show SW enc (W.alloc (.cells #[.func (.func g) #[] lb, .func (.func sf) #[] sb] 76)) blk off (arr n (rot i m ((a + b) / 2 + m - i) s)) wr by rw [hrt]; exact hw.out)
            clear hrt
            have hu := Lib.hid (And.intro (Re.refl a ((a + b) / 2) (rot i m ((a + b) / 2 + m - i) s)) (C.out.left_edge (by omega)))
            go_wp2_with fail
            all_goals
              go_end0
              exact ⟨rfl, _, B.out.back _ _ hw.out, C.out.join hu.out.1 hu.out.2 (Re.refl _ _ _) (C.out.right_edge' hu.out (by omega))⟩
  · have hlo : lo = a := by rw [HE.out.lo, if_neg hbig]
    have hhi : hi = m := by rw [HE.out.hi, if_neg hbig]
    have t2 : decide (((a : Int) + b) / 2 < (m : Int)) = false := by simp; omega
    have hlo1 := Nat.le_of_eq hlo
    have hlo2 := Nat.le_of_eq hlo.symm
    have hhi1 := Nat.le_of_eq hhi
    have hhi2 := Nat.le_of_eq hhi.symm
    clear hlo hhi
    go_wp2_with fail
    go_loopw [18, 19] (fun vi vj wr => ∃ i j : Nat, vi = .int .i64 i ∧ vj = .int .i64 j ∧ lo ≤ i ∧ i ≤ j ∧ j ≤ hi ∧ Hid (∀ c, lo ≤ c → c < i → key (s c) ≤ key (s ((a + b) / 2 + m - 1 - c))) ∧ Hid (∀ c, j ≤ c → c < hi → key (s ((a + b) / 2 + m - 1 - c)) < key (s c)) ∧
      Hid (SW enc (W.alloc (.cells #[.func (.func g) #[] lb, .func (.func sf) #[] sb] 76)) blk off (arr n s) wr) ∧
      wr.cell? ⟨W.heap.size, 0, none⟩ = some (.func (.func g) #[] lb) ∧ wr.cell? ⟨W.heap.size, 1, none⟩ = some (.func (.func sf) #[] sb)) (fun vi vj _ => (intOf vj).toNat - (intOf vi).toNat)
    case atStart => exact ⟨lo, hi, by congr 1; omega, by congr 1; omega, by omega, by omega, by omega, Lib.hid (fun k _ _ => by omega), Lib.hid (fun k _ _ => by omega), Lib.hid B.out.start, B.out.c0 _ _ B.out.start, B.out.c1 _ _ B.out.start⟩
    case round =>
      obtain ⟨i, j, rfl, rfl, hi1, hij, hj, q1, q2, hw, c0, c1⟩ := hrel
      by_cases hl : i < j
      · go_wp2_with fail
        refine (B.out.S.lessAt hw.out ((a + b) / 2 + m - 1 - (i + j) / 2) ((i + j) / 2) (by omega) (by omega) (by omega) (by omega)).mono ?_
        rintro e w2 ⟨rfl, q, rfl⟩
        have hw2 := Lib.hid (hw.out.drewN q)
        by_cases hk : key (s ((a + b) / 2 + m - 1 - (i + j) / 2)) < key (s ((i + j) / 2))
        · rw [decide_eq_true hk]
          go_wp2_with fail
          go_roundw
          case rel =>
            exact ⟨i, (i + j) / 2, rfl, by congr 1, by omega, by omega, by omega, q1, Lib.hid (fun c x1 x2 => by
              have y1 := HL.out.le (i := (i + j) / 2) (j := c) (by omega) x1 (by omega)
              have y2 := HR.out.le (i := (a + b) / 2 + m - 1 - c) (j := (a + b) / 2 + m - 1 - (i + j) / 2) (by omega) (by omega) (by omega)
              omega), hw2, B.out.c0 _ _ hw2.out, B.out.c1 _ _ hw2.out⟩
          case measure => simp [intOf]; omega
        · rw [decide_eq_false hk]
          go_wp2_with fail
          go_roundw
          case rel =>
            exact ⟨(i + j) / 2 + 1, j, by congr 1, rfl, by omega, by omega, hj, Lib.hid (fun c x1 x2 => by
              have y1 := HL.out.le (i := c) (j := (i + j) / 2) (by omega) (by omega) (by omega)
              have y2 := HR.out.le (i := (a + b) / 2 + m - 1 - (i + j) / 2) (j := (a + b) / 2 + m - 1 - c) (by omega) (by omega) (by omega)
              omega), q2, hw2, B.out.c0 _ _ hw2.out, B.out.c1 _ _ hw2.out⟩
          case measure => simp [intOf]; omega
      · have hji : i = j := by omega
        subst hji
        have C := Lib.hid (Cut.of (mid := (a + b) / 2) (start := i) (lo := lo) (hi := hi) (show a < m by omega) (show m < b by omega) rfl HE.out.lo HE.out.hi hi1 hj HL.out HR.out HLR.out q1.out q2.out)
        have i1 : a ≤ i := by omega
        have i2 : i ≤ m := by omega
        have i3 : i ≤ (a + b) / 2 := by omega
        have i4 : (a + b) / 2 + m ≤ i + b := by omega
        clear hl hij hi1 hj q1 q2
        by_cases hA : i < m
        · by_cases hB : i < (a + b) / 2
          · go_wp2_with fail
            refine (rotateZ (B.out.S.on hw.out) (B.out.S.holds B.out.H hw.out) i m ((a + b) / 2 + m - i) rfl rfl (by omega) hA (by omega) (by omega)).mono ?_
            rintro e w1 ⟨rfl, hs⟩
            have hw := Lib.hid (B.out.call hw.out hs)
            have c0 := B.out.c0 _ _ hw.out
            have c1 := B.out.c1 _ _ hw.out
            by_cases hC : a < i
            · go_wp2_with fail
              all_goals
                refine (IH.out _ (rot i m ((a + b) / 2 + m - i) s) _ _ _ a i ((a + b) / 2) rfl rfl (by omega) (by omega) (B.out.S.on hw.out) (B.out.S.holds B.out.H hw.out) (by omega) (by omega) (by omega) C.out.l1 C.out.l2 C.out.l12).mono ?_
                rintro e w2 ⟨rfl, u, hs, hu⟩
                have hu := Lib.hid hu
                have hw := Lib.hid (B.out.call hw.out hs)
                have c0 := B.out.c0 _ _ hw.out
                have c1 := B.out.c1 _ _ hw.out
                by_cases hD : ((a + b) / 2 + m - i) < b
                · go_wp2_with fail
                  all_goals
                    refine (IH.out _ u _ _ _ ((a + b) / 2) ((a + b) / 2 + m - i) b (by omega) (by omega) rfl (by omega) (B.out.S.on hw.out) (B.out.S.holds B.out.H hw.out) (by omega) (by omega) h3 (C.out.rr1 hu.out) (C.out.rr2 hu.out) (C.out.rr12 hu.out)).mono ?_
                    rintro e w3 ⟨rfl, v, hs, hv⟩
                    have hv := Lib.hid hv
                    have hw := Lib.hid (B.out.call hw.out hs)
                    go_wp2_with fail
                    all_goals
                      go_end0
                      exact ⟨rfl, _, B.out.back _ _ hw.out, C.out.join hu.out.1 hu.out.2 hv.out.1 hv.out.2⟩
                · go_wp2_with fail
                  all_goals
                    go_end0
                    exact ⟨rfl, _, B.out.back _ _ hw.out, C.out.join hu.out.1 hu.out.2 (Re.refl _ _ _) (C.out.right_edge' hu.out (by omega))⟩
            · have hu := Lib.hid (And.intro (Re.refl a ((a + b) / 2) (rot i m ((a + b) / 2 + m - i) s)) (C.out.left_edge (by omega)))
              by_cases hD : ((a + b) / 2 + m - i) < b
              · go_wp2_with fail
                all_goals
                  refine (IH.out _ (rot i m ((a + b) / 2 + m - i) s) _ _ _ ((a + b) / 2) ((a + b) / 2 + m - i) b (by omega) (by omega) rfl (by omega) (B.out.S.on hw.out) (B.out.S.holds B.out.H hw.out) (by omega) (by omega) h3 (C.out.rr1 hu.out) (C.out.rr2 hu.out) (C.out.rr12 hu.out)).mono ?_
                  rintro e w3 ⟨rfl, v, hs, hv⟩
                  have hv := Lib.hid hv
                  have hw := Lib.hid (B.out.call hw.out hs)
                  go_wp2_with fail
                  all_goals
                    go_end0
                    exact ⟨rfl, _, B.out.back _ _ hw.out, C.out.join hu.out.1 hu.out.2 hv.out.1 hv.out.2⟩
              · go_wp2_with fail
                all_goals
                  go_end0
                  exact ⟨rfl, _, B.out.back _ _ hw.out, C.out.join hu.out.1 hu.out.2 (Re.refl _ _ _) (C.out.right_edge' hu.out (by omega))⟩
          · have hrt : (rot i m ((a + b) / 2 + m - i) s) = s := rot_id_right (by omega) s (by omega)
            have hw := Lib.hid (show SW enc (W.alloc (.cells #[.func (.func g) #[] lb, .func (.func sf) #[] sb] 76)) blk off (arr n (rot i m ((a + b) / 2 + m - i) s)) wr by rw [hrt]; exact hw.out)
            clear hrt
            have hu := Lib.hid (And.intro (Re.refl a ((a + b) / 2) (rot i m ((a + b) / 2 + m - i) s)) (C.out.left_edge (by omega)))
            by_cases hD : ((a + b) / 2 + m - i) < b
            · go_wp2_with fail
              all_goals
                refine (IH.out _ (rot i m ((a + b) / 2 + m - i) s) _ _ _ ((a + b) / 2) ((a + b) / 2 + m - i) b (by omega) (by omega) rfl (by omega) (B.out.S.on hw.out) (B.out.S.holds B.out.H hw.out) (by omega) (by omega) h3 (C.out.rr1 hu.out) (C.out.rr2 hu.out) (C.out.rr12 hu.out)).mono ?_
                rintro e w3 ⟨rfl, v, hs, hv⟩
                have hv := Lib.hid hv
                have hw := Lib.hid (B.out.call hw.out hs)
                go_wp2_with fail
                all_goals
                  go_end0
                  exact ⟨rfl, _, B.out.back _ _ hw.out, C.out.join hu.out.1 hu.out.2 hv.out.1 hv.out.2⟩
            · go_wp2_with fail
              all_goals
                go_end0
                exact ⟨rfl, _, B.out.back _ _ hw.out, C.out.join hu.out.1 hu.out.2 (Re.refl _ _ _) (C.out.right_edge' hu.out (by omega))⟩
        · by_cases hB : i < (a + b) / 2
          · have hrt : (rot i m ((a + b) / 2 + m - i) s) = s := rot_id_left (by omega) s (by omega)
            have hw := Lib.hid (show SW enc (W.alloc (.cells #[.func (.func g) #[] lb, .func (.func sf) #[] sb] 76)) blk off (arr n (rot i m ((a + b) / 2 + m - i) s)) wr by rw [hrt]; exact hw.out)
            clear hrt
            by_cases hC : a < i
            · go_wp2_with fail
              all_goals
                refine (IH.out _ (rot i m ((a + b) / 2 + m - i) s) _ _ _ a i ((a + b) / 2) rfl rfl (by omega) (by omega) (B.out.S.on hw.out) (B.out.S.holds B.out.H hw.out) (by omega) (by omega) (by omega) C.out.l1 C.out.l2 C.out.l12).mono ?_
                rintro e w2 ⟨rfl, u, hs, hu⟩
                have hu := Lib.hid hu
                have hw := Lib.hid (B.out.call hw.out hs)
                have c0 := B.out.c0 _ _ hw.out
                have c1 := B.out.c1 _ _ hw.out
                go_wp2_with fail
                all_goals
                  go_end0
                  exact ⟨rfl, _, B.out.back _ _ hw.out, C.out.join hu.out.1 hu.out.2 (Re.refl _ _ _) (C.out.right_edge' hu.out (by omega))⟩
            · have hu := Lib.hid (And.intro (Re.refl a ((a + b) / 2) (rot i m ((a + b) / 2 + m - i) s)) (C.out.left_edge (by omega)))
              go_wp2_with fail
              all_goals
                go_end0
                exact ⟨rfl, _, B.out.back _ _ hw.out, C.out.join hu.out.1 hu.out.2 (Re.refl _ _ _) (C.out.right_edge' hu.out (by omega))⟩
          · have hrt : (rot i m ((a + b) / 2 + m - i) s) = s := rot_id_left (by omega) s (by omega)
            have hw := Lib.hid (show SW enc (W.alloc (.cells #[.func (.func g) #[] lb, .func (.func sf) #[] sb] 76)) blk off (arr n (rot i m ((a + b) / 2 + m - i) s)) wr by rw [hrt]; exact hw.out)
            clear hrt
            have hu := Lib.hid (And.intro (Re.refl a ((a + b) / 2) (rot i m ((a + b) / 2 + m - i) s)) (C.out.left_edge (by omega)))
            go_wp2_with fail
            all_goals
              go_end0
              exact ⟨rfl, _, B.out.back _ _ hw.out, C.out.join hu.out.1 hu.out.2 (Re.refl _ _ _) (C.out.right_edge' hu.out (by omega))⟩
theorem merge_all (K : Nat) : MergeAt enc blk off n g sf lb sb key K := by
  induction K using Nat.strongRecOn with
  | _ K IH =>
    intro W s x y z a m b hx hy hz hK S hH h1 h2 h3 hl hr hlr
    subst hx; subst hy; subst hz
    by_cases c1 : m = a + 1
    · subst c1
      exact merge_one S hH a (a + 1) b rfl h2 h3 hr (fun j j1 j2 => hlr a j (Nat.le_refl _) (by omega) (by omega) j2)
    · by_cases c2 : b = m + 1
      · exact merge_last S hH a m b c2 (by omega) h3 hl (fun j j1 j2 => hlr j m j1 j2 (Nat.le_refl _) h2)
      · exact merge_step S hH a m b (by omega) (by omega) h3 hl hr hlr (IH (b - a) hK)
end Go.Proofs.YtlhgfijpagfhpaaGreatDoor
