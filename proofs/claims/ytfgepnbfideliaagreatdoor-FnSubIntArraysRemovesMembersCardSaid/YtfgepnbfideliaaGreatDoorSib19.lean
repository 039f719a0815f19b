/- Converters of this seat; funcOpSub on two arrays of ints. -/
import Derived.Test.YtfgepnbfideliaaGreatDoorSia19
import Derived.Deep.LoopGhost
import Derived.Laws.MakeOwn
import Derived.OwnWalk
import Derived.Deep.DeepMust
import Derived.Maps.AppendAt
namespace Go.Proofs.YtfgepnbfideliaaGreatDoor
open Go.RowKit
set_option maxRecDepth 100000
set_option maxHeartbeats 4000000
/-- The []any value v reads, in the world w, as the list xs of ints. -/
def Anys (w : World) (v : Value) (xs : List Int) : Prop :=
  ∃ b o cap, v = .slice (some ⟨b, o, none⟩) xs.length cap ∧ ∀ i, (h : i < xs.length) → w.cell? ⟨b, o + i, none⟩ = some (.iface 3 (.int .i64 xs[i]))
theorem Anys.below {w w' : World} {v : Value} {xs : List Int} (h : Anys w v xs) (hb : Below w.heap.size w w') : Anys w' v xs := by
  obtain ⟨b, o, cap, rfl, hc⟩ := h
  exact ⟨b, o, cap, rfl, fun i hi => (hb.cell (p := ⟨b, o + i, none⟩) (lt_of_cell' (hc i hi))).trans (hc i hi)⟩
theorem clone19 (v : Value) (xs : List Int) (w : World) (hv : Ints w v xs) (hn : (xs.length : Int) ≤ 1048576) :
    Calls Tryz.prog 14 #[v] w fun e w' => ∃ p c, e = .returned (.slice p xs.length c) ∧ Ints w' (.slice p xs.length c) xs ∧ Below w.heap.size w w' := by
  rcases hv with ⟨rfl, rfl⟩ | ⟨p0, cap, rfl, rfl⟩ | ⟨b, o, cap, rfl, hc⟩
  · go_enter Tryz.func14, Tryz.ntmps14
    go_wp2
    go_ret
    exact ⟨_, _, rfl, Or.inl ⟨rfl, rfl⟩, Below.refl _ _⟩
  · have hmk := mkInt 0 (by omega)
    simp only [Int.natCast_zero] at hmk
    go_enter Tryz.func14, Tryz.ntmps14
    go_wp2
    refine wp_loop_rounds 1 ?_
    rw [rounds_succ]
    go_wp2
    go_ret
    exact ⟨_, _, rfl, Or.inr (Or.inl ⟨_, _, rfl, rfl⟩), (Below.refl _ _).alloc (Nat.le_refl _) _⟩
  · have HC := Lib.hid hc
    clear hc
    have hmk := mkInt xs.length (by omega)
    go_enter Tryz.func14, Tryz.ntmps14
    go_wp2
    have HR := Lib.hid (World.rowIs_made w (.int .i64 0) xs.length 3)
    go_loopw [4] (fun i wr => ∃ k : Nat, k ≤ xs.length ∧ i = .int .i64 k ∧ Hid (Below w.heap.size w wr) ∧ Hid (wr.rowIs w.heap.size 3 xs.length (fillN xs k))) (fun i _ => xs.length - (intOf i).toNat)
    case atStart => exact ⟨0, Nat.zero_le _, rfl, Lib.hid ((Below.refl _ _).alloc (Nat.le_refl _) _), Lib.hid (HR.out.congr fun i _ => by unfold fillN; rw [if_neg (by omega)])⟩
    case round =>
      obtain ⟨k, hk, rfl, HB, HW⟩ := hrel
      clear HR hmk
      by_cases hlt : (k : Int) < xs.length
      · have hk' : k < xs.length := by omega
        have hcell : wr.cell? ⟨b, o + k, none⟩ = some (.int .i64 xs[k]) := by
          have h := HC.out k hk'
          rw [(HB.out.cell (p := ⟨b, o + k, none⟩) (lt_of_cell' h)), h]
        have h1 : wr.cell? ⟨w.heap.size, k, none⟩ = some (fillN xs k k) := HW.out.cell hk'
        have h2 : wr.frozen? ⟨w.heap.size, k, none⟩ = false := HW.out.frozen k
        have kg : (0 : Int) ≤ k := by omega
        go_wp2
        go_roundw
        case rel => exact ⟨k + 1, by omega, by go_num, Lib.hid (HB.out.setCell (Nat.le_refl _) _), Lib.hid ((HW.out.set k _).congr fun i _ => fillN_step xs k hk' i)⟩
        case measure => simp [intOf]; omega
      · go_wp2
        go_ret
        refine ⟨_, _, rfl, Or.inr (Or.inr ⟨_, _, _, rfl, fun i hi => ?_⟩), HB.out⟩
        rw [Nat.zero_add, HW.out.cell hi]
        unfold fillN
        rw [if_pos (by omega)]
        simp [List.getD, hi]
/-- A range over a slice of ints into a fresh []any. -/
theorem anys19 (v : Value) (xs : List Int) (w : World) (hv : Ints w v xs) (hn : (xs.length : Int) ≤ 1048576) :
    Calls Tryz.prog 33 #[v] w fun e w' => ∃ b c, e = .returned (.slice (some ⟨b, 0, none⟩) xs.length c) ∧ Anys w' (.slice (some ⟨b, 0, none⟩) xs.length c) xs ∧ Below w.heap.size w w' := by
  rcases hv with ⟨rfl, rfl⟩ | ⟨p0, cap, rfl, rfl⟩ | ⟨b, o, cap, rfl, hc⟩
  · have hmk := mkAny 0 (by omega)
    simp only [Int.natCast_zero] at hmk
    go_enter Tryz.func33, Tryz.ntmps33
    go_wp2
    refine wp_loop_rounds 1 ?_
    rw [rounds_succ]
    go_wp2
    go_ret
    exact ⟨_, _, rfl, ⟨_, _, _, rfl, fun i hi => by cases hi⟩, (Below.refl _ _).alloc (Nat.le_refl _) _⟩
  · have hmk := mkAny 0 (by omega)
    simp only [Int.natCast_zero] at hmk
    go_enter Tryz.func33, Tryz.ntmps33
    go_wp2
    refine wp_loop_rounds 1 ?_
    rw [rounds_succ]
    go_wp2
    go_ret
    exact ⟨_, _, rfl, ⟨_, _, _, rfl, fun i hi => by cases hi⟩, (Below.refl _ _).alloc (Nat.le_refl _) _⟩
  · have HC := Lib.hid hc
    clear hc
    have hmk := mkAny xs.length (by omega)
    go_enter Tryz.func33, Tryz.ntmps33
    go_wp2
    have HR := Lib.hid (World.rowIs_made w .nilIface xs.length 20)
    go_loopw [11] (fun i wr => ∃ k : Nat, k ≤ xs.length ∧ i = .int .i64 k ∧ Hid (Below w.heap.size w wr) ∧ Hid (wr.rowIs w.heap.size 20 xs.length (fillI xs k))) (fun i _ => xs.length - (intOf i).toNat)
    case atStart => exact ⟨0, Nat.zero_le _, rfl, Lib.hid ((Below.refl _ _).alloc (Nat.le_refl _) _), Lib.hid (HR.out.congr fun i _ => by unfold fillI; rw [if_neg (by omega)])⟩
    case round =>
      obtain ⟨k, hk, rfl, HB, HW⟩ := hrel
      clear HR hmk
      by_cases hlt : k < xs.length
      · have hcell : wr.cell? ⟨b, o + k, none⟩ = some (.int .i64 xs[k]) := by
          have h := HC.out k hlt
          rw [(HB.out.cell (p := ⟨b, o + k, none⟩) (lt_of_cell' h)), h]
        have h1 : wr.cell? ⟨w.heap.size, k, none⟩ = some (fillI xs k k) := HW.out.cell hlt
        have h2 : wr.frozen? ⟨w.heap.size, k, none⟩ = false := HW.out.frozen k
        have kg : (0 : Int) ≤ k := by omega
        go_wp2
        go_roundw
        case rel => exact ⟨k + 1, by omega, by go_num, Lib.hid (HB.out.setCell (Nat.le_refl _) _), Lib.hid ((HW.out.set k _).congr fun i _ => fillI_step xs k hlt i)⟩
        case measure => simp [intOf]; omega
      · go_wp2
        go_ret
        refine ⟨_, _, rfl, ⟨_, _, _, rfl, fun i hi => ?_⟩, HB.out⟩
        rw [Nat.zero_add, HW.out.cell hi]
        unfold fillI
        rw [if_pos (by omega)]
        simp [List.getD, hi]
/-- A jq array of ints read back. -/
theorem ints19 (v : Value) (xs : List Int) (w : World) (hv : Anys w v xs) (hn : (xs.length : Int) ≤ 1048576) :
    Calls Tryz.prog 32 #[.iface 61 v] w fun e w' => ∃ b c, e = .returned (.tuple #[.bool true, .slice (some ⟨b, 0, none⟩) xs.length c]) ∧ Ints w' (.slice (some ⟨b, 0, none⟩) xs.length c) xs ∧ Below w.heap.size w w' := by
  obtain ⟨b, o, cap, rfl, hc⟩ := hv
  have HC := Lib.hid hc
  clear hc
  have hmk := mkInt xs.length (by omega)
  go_enter Tryz.func32, Tryz.ntmps32
  go_wp2
  have HR := Lib.hid (World.rowIs_made w (.int .i64 0) xs.length 3)
  go_loopw [23] (fun i wr => ∃ k : Nat, k ≤ xs.length ∧ i = .int .i64 k ∧ Hid (Below w.heap.size w wr) ∧ Hid (wr.rowIs w.heap.size 3 xs.length (fillN xs k))) (fun i _ => xs.length - (intOf i).toNat)
  case atStart => exact ⟨0, Nat.zero_le _, rfl, Lib.hid ((Below.refl _ _).alloc (Nat.le_refl _) _), Lib.hid (HR.out.congr fun i _ => by unfold fillN; rw [if_neg (by omega)])⟩
  case round =>
    obtain ⟨k, hk, rfl, HB, HW⟩ := hrel
    clear HR hmk
    by_cases hlt : k < xs.length
    · have hcell : wr.cell? ⟨b, o + k, none⟩ = some (.iface 3 (.int .i64 xs[k])) := by
        have h := HC.out k hlt
        rw [(HB.out.cell (p := ⟨b, o + k, none⟩) (lt_of_cell' h)), h]
      have h1 : wr.cell? ⟨w.heap.size, k, none⟩ = some (fillN xs k k) := HW.out.cell hlt
      have h2 : wr.frozen? ⟨w.heap.size, k, none⟩ = false := HW.out.frozen k
      have kg : (0 : Int) ≤ k := by omega
      go_wp2
      go_roundw
      case rel => exact ⟨k + 1, by omega, by go_num, Lib.hid (HB.out.setCell (Nat.le_refl _) _), Lib.hid ((HW.out.set k _).congr fun i _ => fillN_step xs k hlt i)⟩
      case measure => simp [intOf]; omega
    · go_wp2
      go_ret2
      refine ⟨_, _, rfl, Or.inr (Or.inr ⟨_, _, _, rfl, fun i hi => ?_⟩), HB.out⟩
      rw [Nat.zero_add, HW.out.cell hi]
      unfold fillN
      rw [if_pos (by omega)]
      simp [List.getD, hi]
def cmpI (a b : Int) : Int := if a < b then -1 else if b < a then 1 else 0
theorem cmpInt (a b : Int) (w : World) :
    Calls Tryz.prog 60 #[.int .i64 a, .int .i64 b] w fun e w' => e = .returned (.int .i64 (cmpI a b)) ∧ w = w' := by
  go_enter Tryz.func60, Tryz.ntmps60
  go_wp2
  all_goals
    go_ret
    unfold cmpI
    refine ⟨?_, rfl⟩
    first | (rw [if_pos (by assumption)]; rfl) | (rw [if_neg (by omega), if_pos (by assumption)]; rfl) | (rw [if_neg (by omega), if_neg (by omega)]; rfl)
theorem btsInt (a b : Int) (w : World) :
    Calls Tryz.prog 59 #[.iface 3 (.int .i64 a), .iface 3 (.int .i64 b), .func (.func 60) #[] #[], .func (.func 61) #[] #[], .func (.func 63) #[] #[], .func (.func 64) #[] #[], .func (.func 65) #[] #[], .func (.func 66) #[] #[], .func (.func 68) #[] #[]] w fun e w' => e = .returned (.int .i64 (cmpI a b)) ∧ w = w' := by
  go_enter Tryz.func59, Tryz.ntmps59
  go_wp2_with fail
  refine (cmpInt _ _ _).mono ?_
  rintro e w' ⟨rfl, rfl⟩
  go_wp2_with fail
  go_ret
  exact ⟨rfl, rfl⟩
theorem compareInt (a b : Int) (w : World) :
    Calls Tryz.prog 46 #[.iface 3 (.int .i64 a), .iface 3 (.int .i64 b)] w fun e w' => e = .returned (.int .i64 (cmpI a b)) ∧ w = w' := by
  go_enter Tryz.func46, Tryz.ntmps46
  go_wp2_with fail
  refine (btsInt _ _ _).mono ?_
  rintro e w' ⟨rfl, rfl⟩
  go_wp2_with fail
  go_ret
  exact ⟨rfl, rfl⟩
theorem cmpI_eq (a b : Int) : (cmpI a b == 0) = decide (a = b) := by
  unfold cmpI
  by_cases h : a < b
  · rw [if_pos h, decide_eq_false (by omega)]; rfl
  · rw [if_neg h]
    by_cases h2 : b < a
    · rw [if_pos h2, decide_eq_false (by omega)]; rfl
    · rw [if_neg h2, decide_eq_true (by omega)]; rfl
theorem info_any : (Tryz.prog.info? 20).map (fun i => (i.zero, i.size, i.bytes)) = some (some .nilIface, 1, 16) := by kernel_rfl
/-- make([]any, 0, n). -/
theorem mkCap (n : Nat) (h : n ≤ 1099511627776) (w : World) : (Instr.makeSlice 61 (.int .i64 0) (.int .i64 n)).run Tryz.prog w = .ok (.slice (some ⟨w.heap.size, 0, none⟩) 0 n) (w.alloc (.cells (madeCells #[.nilIface] n) 20)) := by
  obtain ⟨i0, hi0, hz0, hz1, hz2⟩ := info_parts info_any
  have h := run_make (P := Tryz.prog) w 61 20 i0 .nilIface Tryz.underlying61 hi0 hz0 .i64 .i64 0 n (by omega) (by omega) (by rw [hz2]; omega) (by omega)
  rw [hz1] at h
  simpa [Value.cells] using h
theorem cell_one_at (w : World) (x : Value) (t : TypeId) {n : Nat} (h : n = w.heap.size) : ∀ j u, [x][j]? = some u → (w.alloc (.cells #[x] t)).cell? ((⟨n, 0, none⟩ : Addr).add j) = some u := by
  subst h; exact cell_one_new w x t
/-- An int as a jq value. -/
def encI (n : Int) : Value := .iface 3 (.int .i64 n)
def Subbed (l r : List Int) (w : World) (e : Ending) (w' : World) : Prop :=
  (∃ v, e = .returned (.iface 61 v) ∧ Anys w' v (keepL l r)) ∧ Below w.heap.size w w'
theorem sub5 (b1 o1 c1 b2 o2 c2 : Nat) (l r : List Int) (w : World) (hl : (l.length : Int) ≤ 1048576) (hr : (r.length : Int) ≤ 1048576)
    (hc1 : ∀ i, (h : i < l.length) → w.cell? ⟨b1, o1 + i, none⟩ = some (.iface 3 (.int .i64 l[i]))) (hc2 : ∀ i, (h : i < r.length) → w.cell? ⟨b2, o2 + i, none⟩ = some (.iface 3 (.int .i64 r[i]))) :
    Calls Tryz.prog 45 #[.slice (some ⟨b1, o1, none⟩) l.length c1, .slice (some ⟨b2, o2, none⟩) r.length c2] w (Subbed l r w) := by
  obtain ⟨i0, hi0, hz0, hz1, hz2⟩ := info_parts info_any
  have HC1 := Lib.hid hc1
  have HC2 := Lib.hid hc2
  have hmk := mkCap l.length (by omega)
  have ho1 := World.ownsRow_made (e := 20) (size := 1) (base := w.heap.size) w (madeCells #[.nilIface] l.length) l.length (Nat.le_refl _) (by unfold maxLen; omega) (by simp [size_madeCells])
  have HO := Lib.hid ho1
  clear hc1 hc2 ho1
  go_enter Tryz.func45, Tryz.ntmps45
  go_wp2
  go_step3
  go_wp2
  go_step3
  go_wp2
  clear hmk
  go_loopg [5, 15] l.length (fun g vs vi wr => ∃ k : Nat, k + g = l.length ∧ vi = .int .i64 k ∧ vs = .slice (some ⟨w.heap.size, 0, none⟩) (keepL (l.take k) r).length l.length ∧
    Hid (wr.ownsRow w.heap.size 20 1 (.slice (some ⟨w.heap.size, 0, none⟩) (keepL (l.take k) r).length l.length) (keepL (l.take k) r).length ((keepL (l.take k) r).map encI)) ∧ Hid (Below w.heap.size w wr) ∧ w.heap.size < wr.heap.size)
  case atStart => exact ⟨0, by omega, rfl, rfl, Lib.hid HO.out, Lib.hid ((Below.refl _ _).alloc (Nat.le_refl _) _), by simp⟩
  case round =>
    clear HO
    obtain ⟨k, hkg, rfl, rfl, HO, HB, hz⟩ := hrel
    have hkl : (keepL (l.take k) r).length ≤ k := Nat.le_trans (keepL_len _ _) (List.length_take_le _ _)
    cases gk with
    | zero =>
      have hge : ¬ k < l.length := by omega
      go_wp2
      try rw [Exit.noGoto_ret]
      go_ret
      refine ⟨⟨_, rfl, ⟨w.heap.size, 0, l.length, ?_, fun i hi => ?_⟩⟩, HB.out⟩
      · have : l.take k = l := List.take_of_length_le (by omega)
        rw [this]
      · have : l.take k = l := List.take_of_length_le (by omega)
        have h := HO.out.cells (g := w.heap.size) rfl i (encI ((keepL l r)[i])) (by rw [this]; simp [hi])
        rw [Go.WideShapes.add_plain] at h
        exact h
    | succ g =>
      have hlt : k < l.length := by omega
      obtain ⟨x, hx⟩ : ∃ x, x = l[k] := ⟨_, rfl⟩
      have hcell : wr.cell? ⟨b1, o1 + k, none⟩ = some (.iface 3 (.int .i64 x)) := by
        have h := HC1.out k hlt
        rw [hx, (HB.out.cell (p := ⟨b1, o1 + k, none⟩) (lt_of_cell' h)), h]
      have HX := Lib.hid hx
      have kg : (0 : Int) ≤ k := by omega
      clear hx
      generalize hK : keepL (l.take k) r = K at *
      have HK := Lib.hid hK
      clear hK
      go_wp2_with fail
      go_loopg [21] r.length (fun g2 vi wq => ∃ j : Nat, j + g2 = r.length ∧ vi = .int .i64 j ∧ Hid (∀ i, (h : i < r.length) → i < j → r[i] ≠ x) ∧ Hid (∃ q, wq = wr.drewN q))
      case atStart => exact ⟨0, by omega, rfl, Lib.hid (fun i h1 h2 => by omega), Lib.hid ⟨0, rfl⟩⟩
      case round =>
        obtain ⟨j, hjg, rfl, HN, HW⟩ := hrel
        cases gk with
        | zero =>
          have hge : ¬ j < r.length := by omega
          have hnm : r.contains x = false := by
            cases hh : r.contains x
            · rfl
            · rw [List.contains_iff_mem] at hh
              obtain ⟨i, hi, e⟩ := List.getElem_of_mem hh
              exact absurd e (HN.out i hi (by omega))
          have HM := Lib.hid hnm
          have HL := Lib.hid hlt
          have ho : wr.ownsRow w.heap.size 20 1 (.slice (some ⟨w.heap.size, 0, none⟩) K.length l.length) K.length (K.map encI) := by
            obtain ⟨q, e⟩ := HW.out; rw [e]; exact HO.out
          have hb := HB.out
          have hz2 : w.heap.size < wr.heap.size := by obtain ⟨q, e⟩ := HW.out; rw [e]; exact hz
          have hb2 : Below w.heap.size w wr := by obtain ⟨q, e⟩ := HW.out; rw [e]; exact Below.trans HB.out ⟨rfl, rfl, rfl, Nat.le_refl _, fun _ _ => rfl⟩
          have HO2 := Lib.hid ho
          have HB2 := Lib.hid hb2
          clear hnm hb hb2 ho
          go_wp2_with (at_builtin; go_must (refine wpList_append_fits _ rfl (.tmp 30) (.tmp 32) 61 rfl w.heap.size 20 i0 1 Tryz.underlying61 hi0 hz1 w.heap.size K.length l.length _ rfl (HO2.out.alloc _) ⟨_, 0, none⟩ 1 1 [.iface 3 (.int .i64 x)] rfl rfl (cell_one_at _ _ _ rfl) (by simp [Value.oneCell']) (by omega) ?_; intro w4 hown4 hgrow4))
          go_wp2_with fail
          go_roundg g
          case measure => omega
          case rel =>
            have e : keepL (l.take (k + 1)) r = K ++ [x] := by
              rw [keepL_snoc l r k HL.out, ← HX.out, if_neg (by rw [HM.out]; decide), HK.out]
            have hs4 := hgrow4.size
            refine ⟨k + 1, by omega, by go_num, by rw [e]; simp, Lib.hid ?_, Lib.hid ((HB2.out.alloc (by omega) _).grown hgrow4 (by simp; omega) (fun j hj => by cases hj; exact Nat.le_refl _)), by simp at hs4; omega⟩
            rw [e, List.map_append]
            simpa [encI] using hown4
        | succ g2 =>
          have hjr : j < r.length := by omega
          obtain ⟨y, hy⟩ : ∃ y, y = r[j] := ⟨_, rfl⟩
          have hc2 : wr.cell? ⟨b2, o2 + j, none⟩ = some (.iface 3 (.int .i64 y)) := by
            obtain ⟨q, e⟩ := HW.out
            have h := HC2.out j hjr
            rw [e, World.cell?_drewN, hy, (HB.out.cell (p := ⟨b2, o2 + j, none⟩) (lt_of_cell' h)), h]
          have HY := Lib.hid hy
          have jg : (0 : Int) ≤ j := by omega
          have HJR := Lib.hid hjr
          have HL := Lib.hid hlt
          have HC := Lib.hid (fun W => compareInt x y W)
          clear hy
          by_cases heq : x = y
          · have t0 : (cmpI x y == 0) = true := by rw [cmpI_eq]; simpa using heq
            have HE := Lib.hid heq
            clear heq
            go_wp2_with fail
            refine (HC.out _).mono ?_
            rintro e w' ⟨rfl, rfl⟩
            go_wp2_with fail
            go_roundg g
            case measure => omega
            case rel =>
              have e : keepL (l.take (k + 1)) r = K := by
                rw [keepL_snoc l r k HL.out, ← HX.out, if_pos, HK.out]
                rw [List.contains_iff_mem, HE.out, HY.out]
                exact List.getElem_mem _
              rw [← e] at HO
              obtain ⟨q, hq⟩ := HW.out
              refine ⟨k + 1, by omega, by go_num, by rw [e], Lib.hid (by rw [hq]; exact HO.out), Lib.hid (by rw [hq]; exact Below.trans HB.out ⟨rfl, rfl, rfl, Nat.le_refl _, fun _ _ => rfl⟩), by rw [hq]; exact hz⟩
          · have t0 : (cmpI x y == 0) = false := by rw [cmpI_eq]; simpa using heq
            have HE := Lib.hid heq
            clear heq
            go_wp2_with fail
            refine (HC.out _).mono ?_
            rintro e w' ⟨rfl, rfl⟩
            go_wp2_with fail
            go_roundg g2
            case measure => omega
            case rel =>
              exact ⟨j + 1, by omega, by go_num, Lib.hid (fun i h1 h2 => by
                by_cases e : i = j
                · subst e; rw [← HY.out]; exact fun h => HE.out h.symm
                · exact HN.out i h1 (by omega)), HW⟩
theorem bts_sub (b1 o1 c1 b2 o2 c2 : Nat) (l r : List Int) (w : World) (hl : (l.length : Int) ≤ 1048576) (hr : (r.length : Int) ≤ 1048576)
    (hc1 : ∀ i, (h : i < l.length) → w.cell? ⟨b1, o1 + i, none⟩ = some (.iface 3 (.int .i64 l[i]))) (hc2 : ∀ i, (h : i < r.length) → w.cell? ⟨b2, o2 + i, none⟩ = some (.iface 3 (.int .i64 r[i]))) (f1 f2 f3 f4 f6 f7 : Value) :
    Calls Tryz.prog 38 #[.iface 61 (.slice (some ⟨b1, o1, none⟩) l.length c1), .iface 61 (.slice (some ⟨b2, o2, none⟩) r.length c2), f1, f2, f3, f4, .func (.func 45) #[] #[], f6, f7] w (Subbed l r w) := by
  have H := Lib.hid (sub5 b1 o1 c1 b2 o2 c2 l r w hl hr hc1 hc2)
  clear hc1 hc2
  go_enter Tryz.func38, Tryz.ntmps38
  go_wp2_with fail
  refine H.out.mono ?_
  rintro e w1 ⟨⟨v, rfl, hv⟩, hb⟩
  have HH := Lib.hid (And.intro hv hb)
  clear hv hb
  go_wp2_with fail
  go_ret
  exact ⟨⟨v, rfl, HH.out.1⟩, HH.out.2⟩
theorem opSub_arr (u : Value) (v x : Value) (l r : List Int) (w : World) (hv : Anys w v l) (hx : Anys w x r) (hl : (l.length : Int) ≤ 1048576) (hr : (r.length : Int) ≤ 1048576) :
    Calls Tryz.prog 30 #[u, .iface 61 v, .iface 61 x] w (Subbed l r w) := by
  obtain ⟨b1, o1, c1, rfl, hc1⟩ := hv
  obtain ⟨b2, o2, c2, rfl, hc2⟩ := hx
  have H := Lib.hid (fun f1 f2 f3 f4 f6 f7 => bts_sub b1 o1 c1 b2 o2 c2 l r w hl hr hc1 hc2 f1 f2 f3 f4 f6 f7)
  clear hc1 hc2
  go_enter Tryz.func30, Tryz.ntmps30
  go_wp2_with fail
  refine (H.out _ _ _ _ _ _).mono ?_
  rintro e w1 ⟨⟨v, rfl, hv⟩, hb⟩
  have HH := Lib.hid (And.intro hv hb)
  clear hv hb
  go_wp2_with fail
  go_ret
  exact ⟨⟨v, rfl, HH.out.1⟩, HH.out.2⟩
/-- ZZSubIntArrays: true, and what is left. -/
theorem zzSub (v x : Value) (l r : List Int) (w : World) (hv : Ints w v l) (hx : Ints w x r) (hl : (l.length : Int) ≤ 1048576) (hr : (r.length : Int) ≤ 1048576) :
    Calls Tryz.prog 15 #[v, x] w fun e w' => ∃ b c, e = .returned (.tuple #[.bool true, .slice (some ⟨b, 0, none⟩) (keepL l r).length c]) ∧ Ints w' (.slice (some ⟨b, 0, none⟩) (keepL l r).length c) (keepL l r) ∧ Below w.heap.size w w' := by
  have H := Lib.hid (anys19 v l w hv hl)
  have HX := Lib.hid hx
  clear hv hx
  go_enter Tryz.func15, Tryz.ntmps15
  go_wp2_with fail
  refine H.out.mono ?_
  rintro e w1 ⟨b, c, rfl, ha, hb⟩
  have HA := Lib.hid ha
  have HB := Lib.hid hb
  have HK := Lib.hid (anys19 x r w1 (HX.out.below hb) hr)
  clear ha hb
  go_wp2_with fail
  refine HK.out.mono ?_
  rintro e w2 ⟨b', c', rfl, ha, hb⟩
  have H1 := Lib.hid (fun u => opSub_arr u _ _ l r w2 (HA.out.below hb) ha hl hr)
  have HB1 := Lib.hid (HB.out.trans (hb.mono HB.out.size))
  clear ha hb
  go_wp2_with fail
  refine (H1.out _).mono ?_
  rintro e w3 ⟨⟨v, rfl, hv⟩, hb⟩
  have H2 := Lib.hid (ints19 v (keepL l r) w3 hv (by have := keepL_len l r; omega))
  have HB2 := Lib.hid (HB1.out.trans (hb.mono HB1.out.size))
  clear hv hb
  go_wp2_with fail
  refine H2.out.mono ?_
  rintro e w4 ⟨b3, c3, rfl, h1, h2⟩
  have HI := Lib.hid h1
  have HB3 := Lib.hid (HB2.out.trans (h2.mono HB2.out.size))
  clear h1 h2
  go_wp2_with fail
  go_ret2
  exact ⟨_, _, rfl, HI.out, HB3.out⟩
end Go.Proofs.YtfgepnbfideliaaGreatDoor
