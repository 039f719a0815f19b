/- The laws' own helpers of this seat: zzb1Copy, zzb1Val, zzb1ToAny. -/
import Derived.Test.YtmfigefooicgiaaGreatDoorInts
import Derived.Test.YtmfigefooicgiaaGreatDoorCmpO
namespace Go.Proofs.YtmfigefooicgiaaGreatDoor
open Go.RowKit
set_option maxRecDepth 100000
set_option maxHeartbeats 1000000
theorem copy (v : Value) (xs : List Int) (w : World) (hv : Ints w v xs) (hn : (xs.length : Int) ≤ 1048576) :
    Calls Tryz.prog 8 #[v] w fun e w' => ∃ v', e = .returned v' ∧ Ints w' v' xs ∧ Below w.heap.size w w' := by
  rcases hv with ⟨rfl, rfl⟩ | ⟨p0, cap, rfl, rfl⟩ | ⟨b, o, cap, rfl, hc⟩
  · go_enter Tryz.func8, Tryz.ntmps8
    go_wp2
    go_ret
    exact ⟨_, rfl, Or.inl ⟨rfl, rfl⟩, Below.refl _ _⟩
  · have hmk := mkInt 0 (by omega)
    simp only [Int.natCast_zero] at hmk
    go_enter Tryz.func8, Tryz.ntmps8
    go_wp2
    refine wp_loop_rounds 1 ?_
    rw [rounds_succ]
    go_wp2
    go_ret
    exact ⟨_, rfl, Or.inr (Or.inl ⟨_, _, rfl, rfl⟩), (Below.refl _ _).alloc (Nat.le_refl _) _⟩
  · have HC := Lib.hid hc
    clear hc
    have hmk := mkInt xs.length (by omega)
    go_enter Tryz.func8, Tryz.ntmps8
    go_wp2
    have HR := Lib.hid (World.rowIs_made w (.int .i64 0) xs.length 3)
    go_loopw [4] (fun i wr => ∃ k : Nat, k ≤ xs.length ∧ i = .int .i64 k ∧ Hid (Below w.heap.size w wr) ∧ Hid (wr.rowIs w.heap.size 3 xs.length (fillN xs k))) (fun i _ => xs.length - (intOf i).toNat)
    case atStart => exact ⟨0, Nat.zero_le _, rfl, Lib.hid ((Below.refl _ _).alloc (Nat.le_refl _) _), Lib.hid (HR.out.congr fun i _ => by unfold fillN; rw [if_neg (by omega)])⟩
    case round =>
      obtain ⟨k, hk, rfl, HB, HW⟩ := hrel
      clear HR hmk
      by_cases hlt : (k : Int) < xs.length
      · have hk' : k < xs.length := by omega
        have hcell : wr.cell? ⟨b, o + k, none⟩ = some (.int .i64 xs[k]) := by
          have h := HC.out k hk'
          rw [(HB.out.cell (p := ⟨b, o + k, none⟩) (lt_of_cell' h)), h]
        have h1 : wr.cell? ⟨w.heap.size, k, none⟩ = some (fillN xs k k) := HW.out.cell hk'
        have h2 : wr.frozen? ⟨w.heap.size, k, none⟩ = false := HW.out.frozen k
        have kg : (0 : Int) ≤ k := by omega
        go_wp2
        go_roundw
        case rel => exact ⟨k + 1, by omega, by go_num, Lib.hid (HB.out.setCell (Nat.le_refl _) _), Lib.hid ((HW.out.set k _).congr fun i _ => fillN_step xs k hk' i)⟩
        case measure => simp [intOf]; omega
      · go_wp2
        go_ret
        refine ⟨_, rfl, Or.inr (Or.inr ⟨_, _, _, rfl, fun i hi => ?_⟩), HB.out⟩
        rw [Nat.zero_add, HW.out.cell hi]
        unfold fillN
        rw [if_pos (by omega)]
        simp [List.getD, hi]
theorem mkVal (k : Int) (b : Bool) (n : Int) (f : Nat) (s : ByteArray) (p : Option Addr) (l c : Nat) (w : World) :
    Calls Tryz.prog 9 #[.int .i64 k, .bool b, .int .i64 n, .float .f64 f, .string s, .slice p l c] w fun e w' => e = .returned (.agg #[.int .i64 k, .bool b, .int .i64 n, .float .f64 f, .string s, .slice p l c]) ∧ Below w.heap.size w w' := by
  go_enter Tryz.func9, Tryz.ntmps9
  go_wp2
  exact bodyPost_ret (v := .agg #[.int .i64 k, .bool b, .int .i64 n, .float .f64 f, .string s, .slice p l c]) (by simp [results, Tryz.results9, go_sem]) rfl ⟨rfl, (Below.refl _ _).alloc (Nat.le_refl _) _⟩
/-- An abstract jq value of this seat. -/
inductive X where
  | null | bool (b : Bool) | int (n : Int) | flo (f : Nat) | str (s : ByteArray) | arr (xs : List Int) | obj (s : ByteArray) (n : Int)
def toX (k : Int) (b : Bool) (n : Int) (f : Nat) (s : ByteArray) (xs : List Int) : X :=
  if k = 1 then .bool b else if k = 2 then .int n else if k = 3 then .flo f else if k = 4 then .str s else if k = 5 then .arr xs else if k = 6 then .obj s n else .null
/-- The value v reads, in the world w, as x. -/
def IsX (w : World) (v : Value) : X → Prop
  | .null => v = .nilIface
  | .bool b => v = .iface 4 (.bool b)
  | .int n => v = .iface 3 (.int .i64 n)
  | .flo f => v = .iface 22 (.float .f64 f)
  | .str s => v = .iface 9 (.string s)
  | .arr xs => ∃ b o cap, v = .iface 46 (.slice (some ⟨b, o, none⟩) xs.length cap) ∧ ∀ i, (h : i < xs.length) → w.cell? ⟨b, o + i, none⟩ = some (.iface 3 (.int .i64 xs[i]))
  | .obj s n => ∃ r, v = .iface 47 (.map (some r)) ∧ w.heap[r]? = some (.map #[⟨.string s, .iface 3 (.int .i64 n), 0⟩] 1)
theorem IsX.below {w w' : World} {v : Value} {x : X} (h : IsX w v x) (hb : Below w.heap.size w w') : IsX w' v x := by
  cases x with
  | arr xs => obtain ⟨b, o, cap, rfl, hc⟩ := h; exact ⟨b, o, cap, rfl, fun i hi => (hb.cell (p := ⟨b, o + i, none⟩) (lt_of_cell (hc i hi))).trans (hc i hi)⟩
  | obj s n => obtain ⟨r, rfl, hr⟩ := h; exact ⟨r, rfl, (hb.block r (lt_of_block hr)).trans hr⟩
  | _ => exact h
theorem toAny5 (b : Bool) (n : Int) (f : Nat) (s : ByteArray) (v : Value) (xs : List Int) (w : World) (hv : Ints w v xs) (hn : (xs.length : Int) ≤ 1048576) :
    Calls Tryz.prog 18 #[.agg #[.int .i64 5, .bool b, .int .i64 n, .float .f64 f, .string s, v]] w fun e w' => ∃ u, e = .returned u ∧ IsX w' u (.arr xs) ∧ Below w.heap.size w w' := by
  rcases hv with ⟨rfl, rfl⟩ | ⟨p0, cap, rfl, rfl⟩ | ⟨b1, o, cap, rfl, hc⟩
  · have hmk := mkAny 0 (by omega)
    simp only [Int.natCast_zero] at hmk
    go_enter Tryz.func18, Tryz.ntmps18
    go_wp2
    refine wp_loop_rounds 1 ?_
    rw [rounds_succ]
    go_wp2
    go_ret
    exact ⟨_, rfl, ⟨_, _, _, rfl, fun i hi => by cases hi⟩, ((Below.refl _ _).alloc (Nat.le_refl _) _).alloc (by simp) _⟩
  · have hmk := mkAny 0 (by omega)
    simp only [Int.natCast_zero] at hmk
    go_enter Tryz.func18, Tryz.ntmps18
    go_wp2
    refine wp_loop_rounds 1 ?_
    rw [rounds_succ]
    go_wp2
    go_ret
    exact ⟨_, rfl, ⟨_, _, _, rfl, fun i hi => by cases hi⟩, ((Below.refl _ _).alloc (Nat.le_refl _) _).alloc (by simp) _⟩
  · have HC := Lib.hid hc
    clear hc
    have hmk := mkAny xs.length (by omega)
    go_enter Tryz.func18, Tryz.ntmps18
    go_wp2
    have HR := Lib.hid (World.rowIs_made (w.alloc (.cells #[.int .i64 5, .bool b, .int .i64 n, .float .f64 f, .string s, .slice (some ⟨b1, o, none⟩) xs.length cap] 28)) .nilIface xs.length 20)
    rw [World.size_alloc] at HR
    go_loopw [36, 4] (fun i _ wr => ∃ k : Nat, k ≤ xs.length ∧ i = .int .i64 k ∧ Hid (Below w.heap.size w wr) ∧ wr.cell? ⟨w.heap.size, 5, none⟩ = some (.slice (some ⟨b1, o, none⟩) xs.length cap) ∧ Hid (wr.rowIs (w.heap.size + 1) 20 xs.length (fillI xs k))) (fun i _ _ => xs.length - (intOf i).toNat)
    case atStart => exact ⟨0, Nat.zero_le _, rfl, Lib.hid (((Below.refl _ _).alloc (Nat.le_refl _) _).alloc (by simp) _), by simp, Lib.hid (HR.out.congr fun i _ => by unfold fillI; rw [if_neg (by omega)])⟩
    case round =>
      obtain ⟨k, hk, rfl, HB, h5, HW⟩ := hrel
      clear HR hmk
      by_cases hlt : (k : Int) < xs.length
      · have hk' : k < xs.length := by omega
        have hcell : wr.cell? ⟨b1, o + k, none⟩ = some (.int .i64 xs[k]) := by
          have h := HC.out k hk'
          rw [(HB.out.cell (p := ⟨b1, o + k, none⟩) (lt_of_cell' h)), h]
        have h1 : wr.cell? ⟨w.heap.size + 1, k, none⟩ = some (fillI xs k k) := HW.out.cell hk'
        have h2 : wr.frozen? ⟨w.heap.size + 1, k, none⟩ = false := HW.out.frozen k
        have kg : (0 : Int) ≤ k := by omega
        go_wp2
        go_roundw
        case rel => exact ⟨k + 1, by omega, by go_num, Lib.hid (HB.out.setCell (by simp) _), (World.cell?_setCell_other _ _ _ _ (by simp)).trans h5, Lib.hid ((HW.out.set k _).congr fun i _ => fillI_step xs k hk' i)⟩
        case measure => simp [intOf]; omega
      · go_wp2
        go_ret
        refine ⟨_, rfl, ⟨_, _, _, rfl, fun i hi => ?_⟩, HB.out⟩
        rw [Nat.zero_add, HW.out.cell hi]
        unfold fillI
        rw [if_pos (by omega)]
        simp [List.getD, hi]
theorem toAny6 (b : Bool) (n : Int) (f : Nat) (s : ByteArray) (v : Value) (w : World) :
    Calls Tryz.prog 18 #[.agg #[.int .i64 6, .bool b, .int .i64 n, .float .f64 f, .string s, v]] w fun e w' => ∃ u, e = .returned u ∧ IsX w' u (.obj s n) ∧ Below w.heap.size w w' := by
  have hmm := @run_makeMap Tryz.prog
  have hins := run_insert1 (P := Tryz.prog) Tryz.underlying47 Tryz.underlying9 (w.alloc (.cells #[.int .i64 6, .bool b, .int .i64 n, .float .f64 f, .string s, v] 28)) s (.iface 3 (.int .i64 n))
  simp only [World.size_alloc] at hins
  go_enter Tryz.func18, Tryz.ntmps18
  go_wp2
  go_ret
  refine ⟨_, rfl, ⟨_, rfl, ?_⟩, ((Below.refl _ _).alloc (Nat.le_refl _) _).alloc (by simp) _⟩
  have h := heap_last (w.alloc (.cells #[.int .i64 6, .bool b, .int .i64 n, .float .f64 f, .string s, v] 28)) (.map #[⟨.string s, .iface 3 (.int .i64 n), 0⟩] 1)
  rwa [World.size_alloc] at h
theorem toAny (k : Int) (b : Bool) (n : Int) (f : Nat) (s : ByteArray) (v : Value) (xs : List Int) (w : World) (hv : Ints w v xs) (hn : (xs.length : Int) ≤ 1048576) :
    Calls Tryz.prog 18 #[.agg #[.int .i64 k, .bool b, .int .i64 n, .float .f64 f, .string s, v]] w fun e w' => ∃ u, e = .returned u ∧ IsX w' u (toX k b n f s xs) ∧ Below w.heap.size w w' := by
  by_cases h5 : k = 5
  · subst h5; exact toAny5 b n f s v xs w hv hn
  by_cases h6 : k = 6
  · subst h6; exact toAny6 b n f s v w
  unfold toX
  rw [if_neg h5, if_neg h6]
  have t5 : (k == 5) = false := by simp [h5]
  have t6 : (k == 6) = false := by simp [h6]
  clear h5 h6 hv hn
  by_cases h1 : k = 1
  · subst h1
    go_enter Tryz.func18, Tryz.ntmps18
    go_wp2
    go_ret
    exact ⟨_, rfl, rfl, (Below.refl _ _).alloc (Nat.le_refl _) _⟩
  by_cases h2 : k = 2
  · subst h2
    go_enter Tryz.func18, Tryz.ntmps18
    go_wp2
    go_ret
    exact ⟨_, rfl, rfl, (Below.refl _ _).alloc (Nat.le_refl _) _⟩
  by_cases h3 : k = 3
  · subst h3
    go_enter Tryz.func18, Tryz.ntmps18
    go_wp2
    go_ret
    exact ⟨_, rfl, rfl, (Below.refl _ _).alloc (Nat.le_refl _) _⟩
  by_cases h4 : k = 4
  · subst h4
    go_enter Tryz.func18, Tryz.ntmps18
    go_wp2
    go_ret
    exact ⟨_, rfl, rfl, (Below.refl _ _).alloc (Nat.le_refl _) _⟩
  rw [if_neg h1, if_neg h2, if_neg h3, if_neg h4]
  have t1 : (k == 1) = false := by simp [h1]
  have t2 : (k == 2) = false := by simp [h2]
  have t3 : (k == 3) = false := by simp [h3]
  have t4 : (k == 4) = false := by simp [h4]
  clear h1 h2 h3 h4
  go_enter Tryz.func18, Tryz.ntmps18
  go_wp2
  go_ret
  exact ⟨_, rfl, rfl, (Below.refl _ _).alloc (Nat.le_refl _) _⟩
end Go.Proofs.YtmfigefooicgiaaGreatDoor
