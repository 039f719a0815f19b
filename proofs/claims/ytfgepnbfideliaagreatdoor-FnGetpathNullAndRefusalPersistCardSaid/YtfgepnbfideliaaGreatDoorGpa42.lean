/- Copies: bools, rows of ints; the sizes of a matrix. -/
import Derived.Test.YtfgepnbfideliaaGreatDoorMat
namespace Go.Proofs.YtfgepnbfideliaaGreatDoor
open Go.RowKit
set_option maxRecDepth 100000
set_option maxHeartbeats 8000000
def fillB (xs : List Bool) (k : Nat) (i : Nat) : Value := if i < k then .bool (xs.getD i false) else .bool false
theorem fillB_step (xs : List Bool) (k : Nat) (hk : k < xs.length) : ∀ i, (if i = k then Value.bool xs[k] else fillB xs k i) = fillB xs (k + 1) i := by
  intro i
  unfold fillB
  by_cases h : i = k
  · subst h; rw [if_pos rfl, if_pos (by omega)]; simp [List.getD, hk]
  · rw [if_neg h]
    by_cases h2 : i < k
    · rw [if_pos h2, if_pos (by omega)]
    · rw [if_neg h2, if_neg (by omega)]
theorem mkBool (n : Nat) (h : n ≤ 17592186044416) (w : World) : (Instr.makeSlice 48 (.int .i64 (n : Int)) (.int .i64 (n : Int))).run Tryz.prog w = .ok (.slice (some ⟨w.heap.size, 0, none⟩) n n) (w.alloc (.cells (madeCells #[.bool false] n) 4)) :=
  run_make_row' 48 4 (.bool false) 1 Tryz.underlying48 (by kernel_rfl) rfl .i64 .i64 n (by omega) (by omega) w
theorem mkRows (n : Nat) (h : n ≤ 1099511627776) (w : World) : (Instr.makeSlice 47 (.int .i64 (n : Int)) (.int .i64 (n : Int))).run Tryz.prog w = .ok (.slice (some ⟨w.heap.size, 0, none⟩) n n) (w.alloc (.cells (madeCells #[.slice none 0 0] n) 32)) :=
  run_make_row' 47 32 (.slice none 0 0) 24 Tryz.underlying47 (by kernel_rfl) rfl .i64 .i64 n (by omega) (by omega) w
@[go_sem] theorem nil_bools (w : World) (a : Option Addr) (n c : Nat) : (binOp .eql 48 (.slice a n c) (.slice none 0 0)).run Tryz.prog w = .ok (.bool a.isNone) w := Lib.run_eql_slice_nil w 48 4 a n c 0 0 Tryz.underlying48
@[go_sem] theorem nil_rows (w : World) (a : Option Addr) (n c : Nat) : (binOp .eql 47 (.slice a n c) (.slice none 0 0)).run Tryz.prog w = .ok (.bool a.isNone) w := Lib.run_eql_slice_nil w 47 32 a n c 0 0 Tryz.underlying47
theorem cloneB (v : Value) (xs : List Bool) (w : World) (hv : Bools w v xs) (hn : (xs.length : Int) ≤ 1048576) :
    Calls Tryz.prog 27 #[v] w fun e w' => ∃ p c, e = .returned (.slice p xs.length c) ∧ Bools w' (.slice p xs.length c) xs ∧ Below w.heap.size w w' := by
  rcases hv with ⟨rfl, rfl⟩ | ⟨p0, cap, rfl, rfl⟩ | ⟨b, o, cap, rfl, hc⟩
  · go_enter Tryz.func27, Tryz.ntmps27
    go_wp2
    go_ret
    exact ⟨_, _, rfl, Or.inl ⟨rfl, rfl⟩, Below.refl _ _⟩
  · have hmk := mkBool 0 (by omega)
    simp only [Int.natCast_zero] at hmk
    go_enter Tryz.func27, Tryz.ntmps27
    go_wp2
    refine wp_loop_rounds 1 ?_
    rw [rounds_succ]
    go_wp2
    go_ret
    exact ⟨_, _, rfl, Or.inr (Or.inl ⟨_, _, rfl, rfl⟩), (Below.refl _ _).alloc (Nat.le_refl _) _⟩
  · have HC := Lib.hid hc
    clear hc
    have hmk := mkBool xs.length (by omega)
    go_enter Tryz.func27, Tryz.ntmps27
    go_wp2
    have HR := Lib.hid (World.rowIs_made w (.bool false) xs.length 4)
    go_loopw [4] (fun i wr => ∃ k : Nat, k ≤ xs.length ∧ i = .int .i64 k ∧ Hid (Below w.heap.size w wr) ∧ Hid (wr.rowIs w.heap.size 4 xs.length (fillB xs k))) (fun i _ => xs.length - (intOf i).toNat)
    case atStart => exact ⟨0, Nat.zero_le _, rfl, Lib.hid ((Below.refl _ _).alloc (Nat.le_refl _) _), Lib.hid (HR.out.congr fun i _ => by unfold fillB; rw [if_neg (by omega)])⟩
    case round =>
      obtain ⟨k, hk, rfl, HB, HW⟩ := hrel
      clear HR hmk
      by_cases hlt : (k : Int) < xs.length
      · have hk' : k < xs.length := by omega
        obtain ⟨y, hy⟩ : ∃ y, y = xs[k] := ⟨_, rfl⟩
        have hcell : wr.cell? ⟨b, o + k, none⟩ = some (.bool y) := by
          have h := HC.out k hk'
          rw [hy, (HB.out.cell (p := ⟨b, o + k, none⟩) (lt_of_cell' h)), h]
        have HY := Lib.hid hy
        have h1 : wr.cell? ⟨w.heap.size, k, none⟩ = some (fillB xs k k) := HW.out.cell hk'
        have h2 : wr.frozen? ⟨w.heap.size, k, none⟩ = false := HW.out.frozen k
        have kg : (0 : Int) ≤ k := by omega
        clear hy
        go_wp2
        go_roundw
        case rel => exact ⟨k + 1, by omega, by go_num, Lib.hid (HB.out.setCell (Nat.le_refl _) _), Lib.hid ((HW.out.set k _).congr fun i _ => by rw [HY.out]; exact fillB_step xs k hk' i)⟩
        case measure => simp [intOf]; omega
      · go_wp2
        go_ret
        refine ⟨_, _, rfl, Or.inr (Or.inr ⟨_, _, _, rfl, fun i hi => ?_⟩), HB.out⟩
        rw [Nat.zero_add, HW.out.cell hi]
        unfold fillB
        rw [if_pos (by omega)]
        simp [List.getD, hi]
theorem cloneI (v : Value) (xs : List Int) (w : World) (hv : Ints w v xs) (hn : (xs.length : Int) ≤ 1048576) :
    Calls Tryz.prog 26 #[v] w fun e w' => ∃ p c, e = .returned (.slice p xs.length c) ∧ Ints w' (.slice p xs.length c) xs ∧ Below w.heap.size w w' := by
  rcases hv with ⟨rfl, rfl⟩ | ⟨p0, cap, rfl, rfl⟩ | ⟨b, o, cap, rfl, hc⟩
  · go_enter Tryz.func26, Tryz.ntmps26
    go_wp2
    go_ret
    exact ⟨_, _, rfl, Or.inl ⟨rfl, rfl⟩, Below.refl _ _⟩
  · have hmk := mkInt 0 (by omega)
    simp only [Int.natCast_zero] at hmk
    go_enter Tryz.func26, Tryz.ntmps26
    go_wp2
    refine wp_loop_rounds 1 ?_
    rw [rounds_succ]
    go_wp2
    go_ret
    exact ⟨_, _, rfl, Or.inr (Or.inl ⟨_, _, rfl, rfl⟩), (Below.refl _ _).alloc (Nat.le_refl _) _⟩
  · have HC := Lib.hid hc
    clear hc
    have hmk := mkInt xs.length (by omega)
    go_enter Tryz.func26, Tryz.ntmps26
    go_wp2
    have HR := Lib.hid (World.rowIs_made w (.int .i64 0) xs.length 3)
    go_loopw [4] (fun i wr => ∃ k : Nat, k ≤ xs.length ∧ i = .int .i64 k ∧ Hid (Below w.heap.size w wr) ∧ Hid (wr.rowIs w.heap.size 3 xs.length (fillN xs k))) (fun i _ => xs.length - (intOf i).toNat)
    case atStart => exact ⟨0, Nat.zero_le _, rfl, Lib.hid ((Below.refl _ _).alloc (Nat.le_refl _) _), Lib.hid (HR.out.congr fun i _ => by unfold fillN; rw [if_neg (by omega)])⟩
    case round =>
      obtain ⟨k, hk, rfl, HB, HW⟩ := hrel
      clear HR hmk
      by_cases hlt : (k : Int) < xs.length
      · have hk' : k < xs.length := by omega
        have hcell : wr.cell? ⟨b, o + k, none⟩ = some (.int .i64 xs[k]) := by
          have h := HC.out k hk'
          rw [(HB.out.cell (p := ⟨b, o + k, none⟩) (lt_of_cell' h)), h]
        have h1 : wr.cell? ⟨w.heap.size, k, none⟩ = some (fillN xs k k) := HW.out.cell hk'
        have h2 : wr.frozen? ⟨w.heap.size, k, none⟩ = false := HW.out.frozen k
        have kg : (0 : Int) ≤ k := by omega
        go_wp2
        go_roundw
        case rel => exact ⟨k + 1, by omega, by go_num, Lib.hid (HB.out.setCell (Nat.le_refl _) _), Lib.hid ((HW.out.set k _).congr fun i _ => fillN_step xs k hk' i)⟩
        case measure => simp [intOf]; omega
      · go_wp2
        go_ret
        refine ⟨_, _, rfl, Or.inr (Or.inr ⟨_, _, _, rfl, fun i hi => ?_⟩), HB.out⟩
        rw [Nat.zero_add, HW.out.cell hi]
        unfold fillN
        rw [if_pos (by omega)]
        simp [List.getD, hi]
theorem set_other (w : World) (b o b' o' : Nat) (v : Value) (h : b' ≠ b) : (w.setCell ⟨b, o, none⟩ v).cell? ⟨b', o', none⟩ = w.cell? ⟨b', o', none⟩ := by
  apply World.cell?_setCell_other
  intro e
  exact h (congrArg Addr.block e).symm
/-- A row whose slots hold no ints is no row of ints. -/
theorem row_apart {W : World} {B n : Nat} {t : TypeId} {f : Nat → Value} (hr : W.rowIs B t n f) (hf : ∀ i, i < n → ∀ q, f i ≠ .int .i64 q) {b o : Nat} {q : Int} (hc : W.cell? ⟨b, o, none⟩ = some (.int .i64 q)) : b ≠ B := by
  rintro rfl
  obtain ⟨c, h1, h2, h3⟩ := hr
  rw [cell_of_row W b o c t (0, 0) h1] at hc
  rcases Nat.lt_or_ge o n with h | h
  · rw [h3 o h] at hc
    exact hf o h q (Option.some.inj hc)
  · rw [Array.getElem?_eq_none (by omega)] at hc
    cases hc
theorem Ints.setOuter {W : World} {v : Value} {xs : List Int} (h : Ints W v xs) {B n k : Nat} {t : TypeId} {f : Nat → Value} {u : Value} (hr : W.rowIs B t n f) (hf : ∀ i, i < n → ∀ q, f i ≠ .int .i64 q) : Ints (W.setCell ⟨B, k, none⟩ u) v xs := by
  rcases h with h | h | ⟨b, o, cap, rfl, hc⟩
  · exact Or.inl h
  · exact Or.inr (Or.inl h)
  · exact Or.inr (Or.inr ⟨b, o, cap, rfl, fun i hi => by rw [set_other _ _ _ _ _ _ (row_apart hr hf (hc i hi))]; exact hc i hi⟩)
/-- What the outer row of a copied matrix holds when k rows are laid. -/
def RowsAt (W : World) (k : Nat) (m : List (List Int)) (f : Nat → Value) : Prop :=
  (∀ i, (h : i < m.length) → i < k → ∃ p c, f i = .slice p m[i].length c ∧ Ints W (f i) m[i]) ∧ ∀ i, ¬ i < k → f i = .slice none 0 0
theorem RowsAt.noInt {W : World} {k : Nat} {m : List (List Int)} {f : Nat → Value} (h : RowsAt W k m f) : ∀ i, i < m.length → ∀ q, f i ≠ .int .i64 q := by
  intro i hi q e
  by_cases hk : i < k
  · obtain ⟨p, c, h1, _⟩ := h.1 i hi hk
    rw [h1] at e; cases e
  · rw [h.2 i hk] at e; cases e
theorem RowsAt.below {W W' : World} {k : Nat} {m : List (List Int)} {f : Nat → Value} (h : RowsAt W k m f) (hb : Below W.heap.size W W') : RowsAt W' k m f :=
  ⟨fun i hi hk => by obtain ⟨p, c, h1, h2⟩ := h.1 i hi hk; exact ⟨p, c, h1, h2.below hb⟩, h.2⟩
theorem RowsAt.step {W : World} {k B : Nat} {t : TypeId} {m : List (List Int)} {f : Nat → Value} (h : RowsAt W k m f) (hr : W.rowIs B t m.length f) (hk : k < m.length) {p : Option Addr} {c : Nat} (hv : Ints W (.slice p m[k].length c) m[k]) :
    RowsAt (W.setCell ⟨B, k, none⟩ (.slice p m[k].length c)) (k + 1) m (fun i => if i = k then .slice p m[k].length c else f i) := by
  refine ⟨fun i hi hi2 => ?_, fun i hi => ?_⟩
  · by_cases e : i = k
    · subst e
      refine ⟨p, c, by simp, ?_⟩
      show Ints _ (if i = i then _ else _) _
      rw [if_pos rfl]
      exact hv.setOuter hr h.noInt
    · simp only [if_neg e]
      obtain ⟨p, c, h1, h2⟩ := h.1 i hi (by omega)
      exact ⟨p, c, h1, h2.setOuter hr h.noInt⟩
  · simp only [if_neg (show ¬ i = k by omega)]
    exact h.2 i (by omega)
theorem row_on {w w' : World} {b n B : Nat} {t : TypeId} {f : Nat → Value} (h : w.rowIs b t n f) (hb : Below B w w') (hB : b < B) : w'.rowIs b t n f := by
  obtain ⟨c', e1, e2, e3⟩ := h
  exact ⟨c', (hb.block b hB).trans e1, e2, e3⟩
theorem cloneM (v : Value) (m : List (List Int)) (w : World) (hv : Mat2 w v m) (hn : (m.length : Int) ≤ 1048576) (hr : ∀ x ∈ m, (x.length : Int) ≤ 1048576) :
    Calls Tryz.prog 25 #[v] w fun e w' => ∃ p c, e = .returned (.slice p m.length c) ∧ Mat2 w' (.slice p m.length c) m ∧ Below w.heap.size w w' := by
  rcases hv with ⟨rfl, rfl⟩ | ⟨p0, cap, rfl, rfl⟩ | ⟨b, o, cap, rfl, hc⟩
  · go_enter Tryz.func25, Tryz.ntmps25
    go_wp2
    go_ret
    exact ⟨_, _, rfl, Or.inl ⟨rfl, rfl⟩, Below.refl _ _⟩
  · have hmk := mkRows 0 (by omega)
    simp only [Int.natCast_zero] at hmk
    go_enter Tryz.func25, Tryz.ntmps25
    go_wp2
    refine wp_loop_rounds 1 ?_
    rw [rounds_succ]
    go_wp2
    go_ret
    exact ⟨_, _, rfl, Or.inr (Or.inl ⟨_, _, rfl, rfl⟩), (Below.refl _ _).alloc (Nat.le_refl _) _⟩
  · have HC := Lib.hid hc
    have HN := Lib.hid hr
    clear hc hr
    have hmk := mkRows m.length (by omega)
    go_enter Tryz.func25, Tryz.ntmps25
    go_wp2
    have HR := Lib.hid (World.rowIs_made w (.slice none 0 0) m.length 32)
    go_loopw [4] (fun i wr => ∃ (k : Nat) (f : Nat → Value), k ≤ m.length ∧ i = .int .i64 k ∧ Hid (Below w.heap.size w wr) ∧ Hid (wr.rowIs w.heap.size 32 m.length f) ∧ Hid (RowsAt wr k m f) ∧ w.heap.size < wr.heap.size) (fun i _ => m.length - (intOf i).toNat)
    case atStart => exact ⟨0, fun _ => .slice none 0 0, Nat.zero_le _, rfl, Lib.hid ((Below.refl _ _).alloc (Nat.le_refl _) _), HR, Lib.hid ⟨fun i _ h => by omega, fun _ _ => rfl⟩, by simp⟩
    case round =>
      obtain ⟨k, f, hk, rfl, HB, HW, HA, hz⟩ := hrel
      clear HR hmk
      by_cases hlt : k < m.length
      · obtain ⟨p, c, h1, h2⟩ := HC.out k hlt
        have hcell : wr.cell? ⟨b, o + k, none⟩ = some (.slice p m[k].length c) := by
          rw [(HB.out.cell (p := ⟨b, o + k, none⟩) (lt_of_cell' h1)), h1]
        have HK := Lib.hid (cloneI _ m[k] wr (h2.below HB.out) (HN.out _ (List.getElem_mem hlt)))
        have HL := Lib.hid hlt
        have kg : (0 : Int) ≤ k := by omega
        have ml : (k : Int) < m.length := by omega
        clear h1 h2
        go_wp2_with fail
        refine HK.out.mono ?_
        rintro e w1 ⟨p2, c2, rfl, hi, hb⟩
        have HI := Lib.hid hi
        have HW2 := Lib.hid (row_on HW.out hb hz)
        have HA2 := Lib.hid (HA.out.below hb)
        have HB2 := Lib.hid (HB.out.trans (hb.mono HB.out.size))
        have hz2 := Nat.lt_of_lt_of_le hz hb.size
        have g1 : w1.cell? ⟨w.heap.size, k, none⟩ = some (f k) := HW2.out.cell hlt
        have g2 : w1.frozen? ⟨w.heap.size, k, none⟩ = false := HW2.out.frozen k
        clear hi hb HK HW HA HB hz
        go_wp2_with fail
        go_roundw
        case rel => exact ⟨k + 1, _, HL.out, by go_num, Lib.hid (HB2.out.setCell (Nat.le_refl _) _), Lib.hid (HW2.out.set k _), Lib.hid (HA2.out.step HW2.out HL.out HI.out), by simpa using hz2⟩
        case measure => simp [intOf]; omega
      · go_wp2
        go_ret
        refine ⟨_, _, rfl, Or.inr (Or.inr ⟨w.heap.size, 0, _, rfl, fun r hr => ?_⟩), HB.out⟩
        obtain ⟨p, c, h1, h2⟩ := HA.out.1 r hr (by omega)
        refine ⟨p, c, ?_, by rw [← h1]; exact h2⟩
        rw [Nat.zero_add, HW.out.cell hr, h1]
end Go.Proofs.YtfgepnbfideliaaGreatDoor
