/- Converters of this seat: a copy of a slice of ints, ints as a jq array and back, is it an error. -/
import Derived.Test.YtlhgfijpagfhpaaGreatDoorSi46
namespace Go.Proofs.YtlhgfijpagfhpaaGreatDoor
open Go.RowKit
set_option maxRecDepth 100000
set_option maxHeartbeats 2000000
/-- The []any value v reads, in the world w, as the list xs of ints. -/
def Anys (w : World) (v : Value) (xs : List Int) : Prop :=
  ∃ b o cap, v = .slice (some ⟨b, o, none⟩) xs.length cap ∧ ∀ i, (h : i < xs.length) → w.cell? ⟨b, o + i, none⟩ = some (.iface 3 (.int .i64 xs[i]))
theorem Anys.below {w w' : World} {v : Value} {xs : List Int} (h : Anys w v xs) (hb : Below w.heap.size w w') : Anys w' v xs := by
  obtain ⟨b, o, cap, rfl, hc⟩ := h
  exact ⟨b, o, cap, rfl, fun i hi => (hb.cell (p := ⟨b, o + i, none⟩) (lt_of_cell' (hc i hi))).trans (hc i hi)⟩
theorem clone (v : Value) (xs : List Int) (w : World) (hv : Ints w v xs) (hn : (xs.length : Int) ≤ 1048576) :
    Calls Tryz.prog 9 #[v] w fun e w' => ∃ p c, e = .returned (.slice p xs.length c) ∧ Ints w' (.slice p xs.length c) xs ∧ Below w.heap.size w w' := by
  rcases hv with ⟨rfl, rfl⟩ | ⟨p0, cap, rfl, rfl⟩ | ⟨b, o, cap, rfl, hc⟩
  · go_enter Tryz.func9, Tryz.ntmps9
    go_wp2
    go_ret
    exact ⟨_, _, rfl, Or.inl ⟨rfl, rfl⟩, Below.refl _ _⟩
  · have hmk := mkInt 0 (by omega)
    simp only [Int.natCast_zero] at hmk
    go_enter Tryz.func9, Tryz.ntmps9
    go_wp2
    refine wp_loop_rounds 1 ?_
    rw [rounds_succ]
    go_wp2
    go_ret
    exact ⟨_, _, rfl, Or.inr (Or.inl ⟨_, _, rfl, rfl⟩), (Below.refl _ _).alloc (Nat.le_refl _) _⟩
  · have HC := Lib.hid hc
    clear hc
    have hmk := mkInt xs.length (by omega)
    go_enter Tryz.func9, Tryz.ntmps9
    go_wp2
    have HR := Lib.hid (World.rowIs_made w (.int .i64 0) xs.length 3)
    go_loopw [4] (fun i wr => ∃ k : Nat, k ≤ xs.length ∧ i = .int .i64 k ∧ Hid (Below w.heap.size w wr) ∧ Hid (wr.rowIs w.heap.size 3 xs.length (fillN xs k))) (fun i _ => xs.length - (intOf i).toNat)
    case atStart => exact ⟨0, Nat.zero_le _, rfl, Lib.hid ((Below.refl _ _).alloc (Nat.le_refl _) _), Lib.hid (HR.out.congr fun i _ => by unfold fillN; rw [if_neg (by omega)])⟩
    case round =>
      obtain ⟨k, hk, rfl, HB, HW⟩ := hrel
      clear HR hmk
      by_cases hlt : (k : Int) < xs.length
      · have hk' : k < xs.length := by omega
        have hcell : wr.cell? ⟨b, o + k, none⟩ = some (.int .i64 xs[k]) := by
          have h := HC.out k hk'
          rw [(HB.out.cell (p := ⟨b, o + k, none⟩) (lt_of_cell' h)), h]
        have h1 : wr.cell? ⟨w.heap.size, k, none⟩ = some (fillN xs k k) := HW.out.cell hk'
        have h2 : wr.frozen? ⟨w.heap.size, k, none⟩ = false := HW.out.frozen k
        have kg : (0 : Int) ≤ k := by omega
        go_wp2
        go_roundw
        case rel => exact ⟨k + 1, by omega, by go_num, Lib.hid (HB.out.setCell (Nat.le_refl _) _), Lib.hid ((HW.out.set k _).congr fun i _ => fillN_step xs k hk' i)⟩
        case measure => simp [intOf]; omega
      · go_wp2
        go_ret
        refine ⟨_, _, rfl, Or.inr (Or.inr ⟨_, _, _, rfl, fun i hi => ?_⟩), HB.out⟩
        rw [Nat.zero_add, HW.out.cell hi]
        unfold fillN
        rw [if_pos (by omega)]
        simp [List.getD, hi]
theorem toAnys (v : Value) (xs : List Int) (w : World) (hv : Ints w v xs) (hn : (xs.length : Int) ≤ 1048576) :
    Calls Tryz.prog 23 #[v] w fun e w' => ∃ b c, e = .returned (.slice (some ⟨b, 0, none⟩) xs.length c) ∧ Anys w' (.slice (some ⟨b, 0, none⟩) xs.length c) xs ∧ Below w.heap.size w w' := by
  rcases hv with ⟨rfl, rfl⟩ | ⟨p0, cap, rfl, rfl⟩ | ⟨b, o, cap, rfl, hc⟩
  · have hmk := mkAny 0 (by omega)
    simp only [Int.natCast_zero] at hmk
    go_enter Tryz.func23, Tryz.ntmps23
    go_wp2
    refine wp_loop_rounds 1 ?_
    rw [rounds_succ]
    go_wp2
    go_ret
    exact ⟨_, _, rfl, ⟨_, _, _, rfl, fun i hi => by cases hi⟩, (Below.refl _ _).alloc (Nat.le_refl _) _⟩
  · have hmk := mkAny 0 (by omega)
    simp only [Int.natCast_zero] at hmk
    go_enter Tryz.func23, Tryz.ntmps23
    go_wp2
    refine wp_loop_rounds 1 ?_
    rw [rounds_succ]
    go_wp2
    go_ret
    exact ⟨_, _, rfl, ⟨_, _, _, rfl, fun i hi => by cases hi⟩, (Below.refl _ _).alloc (Nat.le_refl _) _⟩
  · have HC := Lib.hid hc
    clear hc
    have hmk := mkAny xs.length (by omega)
    go_enter Tryz.func23, Tryz.ntmps23
    go_wp2
    have HR := Lib.hid (World.rowIs_made w .nilIface xs.length 20)
    go_loopw [4] (fun i wr => ∃ k : Nat, k ≤ xs.length ∧ i = .int .i64 k ∧ Hid (Below w.heap.size w wr) ∧ Hid (wr.rowIs w.heap.size 20 xs.length (fillI xs k))) (fun i _ => xs.length - (intOf i).toNat)
    case atStart => exact ⟨0, Nat.zero_le _, rfl, Lib.hid ((Below.refl _ _).alloc (Nat.le_refl _) _), Lib.hid (HR.out.congr fun i _ => by unfold fillI; rw [if_neg (by omega)])⟩
    case round =>
      obtain ⟨k, hk, rfl, HB, HW⟩ := hrel
      clear HR hmk
      by_cases hlt : (k : Int) < xs.length
      · have hk' : k < xs.length := by omega
        have hcell : wr.cell? ⟨b, o + k, none⟩ = some (.int .i64 xs[k]) := by
          have h := HC.out k hk'
          rw [(HB.out.cell (p := ⟨b, o + k, none⟩) (lt_of_cell' h)), h]
        have h1 : wr.cell? ⟨w.heap.size, k, none⟩ = some (fillI xs k k) := HW.out.cell hk'
        have h2 : wr.frozen? ⟨w.heap.size, k, none⟩ = false := HW.out.frozen k
        have kg : (0 : Int) ≤ k := by omega
        go_wp2
        go_roundw
        case rel => exact ⟨k + 1, by omega, by go_num, Lib.hid (HB.out.setCell (Nat.le_refl _) _), Lib.hid ((HW.out.set k _).congr fun i _ => fillI_step xs k hk' i)⟩
        case measure => simp [intOf]; omega
      · go_wp2
        go_ret
        refine ⟨_, _, rfl, ⟨_, _, _, rfl, fun i hi => ?_⟩, HB.out⟩
        rw [Nat.zero_add, HW.out.cell hi]
        unfold fillI
        rw [if_pos (by omega)]
        simp [List.getD, hi]
/-- A jq array of ints read back. -/
theorem fromAnys (v : Value) (xs : List Int) (w : World) (hv : Anys w v xs) (hn : (xs.length : Int) ≤ 1048576) :
    Calls Tryz.prog 24 #[.iface 35 v] w fun e w' => ∃ b c, e = .returned (.tuple #[.slice (some ⟨b, 0, none⟩) xs.length c, .bool true]) ∧ Ints w' (.slice (some ⟨b, 0, none⟩) xs.length c) xs ∧ Below w.heap.size w w' := by
  obtain ⟨b, o, cap, rfl, hc⟩ := hv
  have HC := Lib.hid hc
  clear hc
  have hmk := mkInt xs.length (by omega)
  go_enter Tryz.func24, Tryz.ntmps24
  go_wp2
  have HR := Lib.hid (World.rowIs_made w (.int .i64 0) xs.length 3)
  go_loopw [7] (fun i wr => ∃ k : Nat, k ≤ xs.length ∧ i = .int .i64 k ∧ Hid (Below w.heap.size w wr) ∧ Hid (wr.rowIs w.heap.size 3 xs.length (fillN xs k))) (fun i _ => xs.length - (intOf i).toNat)
  case atStart => exact ⟨0, Nat.zero_le _, rfl, Lib.hid ((Below.refl _ _).alloc (Nat.le_refl _) _), Lib.hid (HR.out.congr fun i _ => by unfold fillN; rw [if_neg (by omega)])⟩
  case round =>
    obtain ⟨k, hk, rfl, HB, HW⟩ := hrel
    clear HR hmk
    by_cases hlt : (k : Int) < xs.length
    · have hk' : k < xs.length := by omega
      have hcell : wr.cell? ⟨b, o + k, none⟩ = some (.iface 3 (.int .i64 xs[k])) := by
        have h := HC.out k hk'
        rw [(HB.out.cell (p := ⟨b, o + k, none⟩) (lt_of_cell' h)), h]
      have h1 : wr.cell? ⟨w.heap.size, k, none⟩ = some (fillN xs k k) := HW.out.cell hk'
      have h2 : wr.frozen? ⟨w.heap.size, k, none⟩ = false := HW.out.frozen k
      have kg : (0 : Int) ≤ k := by omega
      go_wp2
      go_roundw
      case rel => exact ⟨k + 1, by omega, by go_num, Lib.hid (HB.out.setCell (Nat.le_refl _) _), Lib.hid ((HW.out.set k _).congr fun i _ => fillN_step xs k hk' i)⟩
      case measure => simp [intOf]; omega
    · go_wp2
      go_ret2
      refine ⟨_, _, rfl, Or.inr (Or.inr ⟨_, _, _, rfl, fun i hi => ?_⟩), HB.out⟩
      rw [Nat.zero_add, HW.out.cell hi]
      unfold fillN
      rw [if_pos (by omega)]
      simp [List.getD, hi]
@[go_sem] theorem ta_err0 (W : World) (v : Value) : (Instr.typeAssert (.iface 55 v) 20 41 true).run Tryz.prog W = .ok (.tuple #[.iface 55 v, .bool true]) W := by kernel_rfl
@[go_sem] theorem ta_err1 (W : World) (v : Value) : (Instr.typeAssert (.iface 52 v) 20 41 true).run Tryz.prog W = .ok (.tuple #[.iface 52 v, .bool true]) W := by kernel_rfl
@[go_sem] theorem ta_err2 (W : World) (v : Value) : (Instr.typeAssert (.iface 58 v) 20 41 true).run Tryz.prog W = .ok (.tuple #[.iface 58 v, .bool true]) W := by kernel_rfl
@[go_sem] theorem ta_err0_arr (W : World) (v : Value) : (Instr.typeAssert (.iface 55 v) 20 35 true).run Tryz.prog W = .ok (.tuple #[.slice none 0 0, .bool false]) W := by kernel_rfl
@[go_sem] theorem ta_err1_arr (W : World) (v : Value) : (Instr.typeAssert (.iface 52 v) 20 35 true).run Tryz.prog W = .ok (.tuple #[.slice none 0 0, .bool false]) W := by kernel_rfl
@[go_sem] theorem ta_err2_arr (W : World) (v : Value) : (Instr.typeAssert (.iface 58 v) 20 35 true).run Tryz.prog W = .ok (.tuple #[.slice none 0 0, .bool false]) W := by kernel_rfl
def ErrT (t : TypeId) : Prop := t = 55 ∨ t = 52 ∨ t = 58
theorem isError (t : TypeId) (v : Value) (w : World) (ht : ErrT t) : Calls Tryz.prog 21 #[.iface t v] w fun e w' => e = .returned (.bool true) ∧ w = w' := by
  rcases ht with rfl | rfl | rfl
  all_goals
    go_enter Tryz.func21, Tryz.ntmps21
    go_wp2
    go_ret
    exact ⟨rfl, rfl⟩
/-- An error is no array. -/
theorem fromErr (t : TypeId) (v : Value) (w : World) (ht : ErrT t) : Calls Tryz.prog 24 #[.iface t v] w fun e w' => e = .returned (.tuple #[.slice none 0 0, .bool false]) ∧ w = w' := by
  rcases ht with rfl | rfl | rfl
  all_goals
    go_enter Tryz.func24, Tryz.ntmps24
    go_wp2
    go_ret2
    exact ⟨rfl, rfl⟩
/-- sortBy hands the error on. -/
def RefusedAny (w : World) (e : Ending) (w' : World) : Prop := (∃ t a, ErrT t ∧ e = .returned (.iface t (.pointer (some a)))) ∧ Below w.heap.size w w'
theorem sortBy_refused (name : ByteArray) (x y : Value) (w : World) (h : Calls Tryz.prog 27 #[.string name, x, y] w (Refused w)) :
    Calls Tryz.prog 22 #[.string name, x, y] w (RefusedAny w) := by
  have H := Lib.hid h
  clear h
  go_enter Tryz.func22, Tryz.ntmps22
  go_wp2_with fail
  refine H.out.mono ?_
  rintro e w1 ⟨⟨t, a, ht, rfl⟩, hb⟩
  have HB := Lib.hid hb
  have HT := Lib.hid ht
  clear hb ht
  go_wp2_with fail
  go_ret
  exact ⟨⟨_, _, HT.out, rfl⟩, HB.out⟩
end Go.Proofs.YtlhgfijpagfhpaaGreatDoor
