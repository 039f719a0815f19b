/- FnIndex2ArrayFloatIndexTruncates: it returns true. -/
import Derived.Test.YtfgepnbfideliaaGreatDoorIdx
import Derived.Test.YtfgepnbfideliaaGreatDoorFtr16
import Derived.Test.YtfgepnbfideliaaGreatDoorInts
namespace Go.Proofs.YtfgepnbfideliaaGreatDoor
open Go.RowKit
set_option maxRecDepth 100000
set_option maxHeartbeats 8000000
/-- Is f strictly between - 2^53 and 2^53? -/
def inside (f : Nat) : Bool := (FloatKind.f64.format.order f 14069245235905429504 == some .gt) && (FloatKind.f64.format.order f 4845873199050653696 == some .lt)
/-- What floatToInt gives. -/
def FloGives (f : Nat) (n : Int) : Prop := (inside f = true ∧ floatToIntVal .f64 f .i64 = some n) ∨ (inside f = false ∧ (n ≤ -9007199254740992 ∨ 9007199254740992 ≤ n))
def FloRet (f : Nat) (w : World) (e : Ending) (w' : World) : Prop := (∃ n, e = .returned (.int .i64 n) ∧ FloGives f n ∧ -9223372036854775808 ≤ n ∧ n ≤ 9223372036854775807) ∧ w = w'
theorem floVal_bounds {f : Nat} {n : Int} (h : floatToIntVal .f64 f .i64 = some n) : -9223372036854775808 ≤ n ∧ n ≤ 9223372036854775807 := by
  have := floatToIntVal_wf h
  simpa [Lit.wf, IntKind.min, IntKind.max, IntKind.signed, IntKind.bits] using this
theorem floatToInt_any (f : Nat) (w : World) : Calls Tryz.prog 70 #[.float .f64 f] w (FloRet f w) := by
  rcases flo_place f with ⟨n, h1, h2, h3, h4, hv, l, u⟩ | ⟨n, h12, h3, h4, hv, l⟩ | ⟨h12, h34⟩
  · have HI := Lib.hid (show inside f = true by unfold inside; rw [h1, h2]; rfl)
    have HV := Lib.hid hv
    have hcv := fun w => run_convert_float_int (P := Tryz.prog) (w := w) 39 3 .f64 .i64 f n (by rw [Tryz.underlying39]; rfl) Tryz.underlying3 hv
    clear h1 h2 hv
    go_enter Tryz.func70, Tryz.ntmps70
    go_wp2
    go_ret
    exact ⟨⟨n, rfl, Or.inl ⟨HI.out, HV.out⟩, floVal_bounds HV.out⟩, rfl⟩
  · have HI := Lib.hid h12
    have HV := Lib.hid hv
    have HL := Lib.hid l
    have hcv := fun w => run_convert_float_int (P := Tryz.prog) (w := w) 39 3 .f64 .i64 f n (by rw [Tryz.underlying39]; rfl) Tryz.underlying3 hv
    clear h12 hv l
    go_enter Tryz.func70, Tryz.ntmps70
    go_wp2
    go_ret
    exact ⟨⟨n, rfl, Or.inr ⟨HI.out, HL.out⟩, floVal_bounds HV.out⟩, rfl⟩
  · have HI := Lib.hid h12
    clear h12
    rcases h0 : (FloatKind.f64.format.order f 0 == some Ordering.gt) with _ | _ <;>
    rcases h3 : (FloatKind.f64.format.order 14114281232179134464 f == some .lt || FloatKind.f64.format.order 14114281232179134464 f == some .eq) with _ | _
    all_goals
      (try (have h4 : (FloatKind.f64.format.order f 4890909195324358656 == some .lt) = false := by rw [h3, Bool.true_and] at h34; exact h34))
      clear h34
      go_enter Tryz.func70, Tryz.ntmps70
      go_wp2
      go_ret
      exact ⟨⟨_, rfl, Or.inr ⟨HI.out, by omega⟩, by omega⟩, rfl⟩
theorem toInt_flo (f : Nat) (w : World) :
    Calls Tryz.prog 49 #[.iface 39 (.float .f64 f)] w fun e w' => (∃ n, e = .returned (.tuple #[.int .i64 n, .bool true]) ∧ Hid (FloGives f n ∧ -9223372036854775808 ≤ n ∧ n ≤ 9223372036854775807)) ∧ w = w' := by
  go_enter Tryz.func49, Tryz.ntmps49
  go_wp2_with fail
  refine (floatToInt_any f _).mono ?_
  rintro e w' ⟨⟨n, rfl, hn⟩, rfl⟩
  have HN := Lib.hid hn
  clear hn
  go_wp2_with fail
  go_ret2
  exact ⟨⟨n, rfl, HN⟩, rfl⟩
def FloIdx (f len : Nat) (vals : Nat → Value) (w : World) (e : Ending) (w' : World) : Prop := (∃ n, FloGives f n ∧ e = .returned (pickV len n vals)) ∧ w = w'
theorem index2_flo (u : Value) (b o c len : Nat) (vals : Nat → Value) (f : Nat) (w : World) (hl : (len : Int) ≤ 1048576) (hc : ∀ k, k < len → w.cell? ⟨b, o + k, none⟩ = some (vals k)) :
    Calls Tryz.prog 34 #[u, .iface 61 (.slice (some ⟨b, o, none⟩) len c), .iface 39 (.float .f64 f)] w (FloIdx f len vals w) := by
  have H := Lib.hid (fun n hn => index_arr b o c len vals n w hl hn hc)
  clear hc
  go_enter Tryz.func34, Tryz.ntmps34
  go_wp2_with fail
  refine (toInt_flo f _).mono ?_
  rintro e w' ⟨⟨n, rfl, hn⟩, rfl⟩
  go_wp2_with fail
  refine (H.out n hn.out.2).mono ?_
  rintro e w' ⟨rfl, rfl⟩
  have HE := Lib.hid (show ∃ m, FloGives f m ∧ Ending.returned (pickV len n vals) = .returned (pickV len m vals) from ⟨n, hn.out.1, rfl⟩)
  clear hn
  generalize pickV len n vals = v at *
  go_wp2_with fail
  go_ret
  exact ⟨HE.out, rfl⟩
@[go_sem] theorem nil_ints_ne (w : World) (a : Option Addr) (n c : Nat) : (binOp .neq 32 (.slice a n c) (.slice none 0 0)).run Tryz.prog w = .ok (.bool (!a.isNone)) w := run_neq_slice_nil w 32 3 a n c Tryz.underlying32
/-- The number that a picked element gives: found or not. -/
def Found (xs : List Int) (i : Int) (e : Ending) : Prop := match pickI xs.length i with
  | some k => e = .returned (.tuple #[.int .i64 (xs.getD k 0), .bool true, .bool false])
  | none => e = .returned (.tuple #[.int .i64 0, .bool false, .bool false])
theorem encV_get (xs : List Int) {k : Nat} (h : k < xs.length) : xs.getD k 0 = xs[k] := by simp [List.getD, h]
def FloFound (xs : List Int) (f : Nat) (w : World) (e : Ending) (w' : World) : Prop := (∃ n, FloGives f n ∧ Found xs n e) ∧ Below w.heap.size w w'
/-- ZZindex2ArrayFloat. -/
theorem zzIdxFlo (v : Value) (xs : List Int) (f : Nat) (w : World) (hv : Ints w v xs) (hn : (xs.length : Int) ≤ 1048576) :
    Calls Tryz.prog 19 #[v, .float .f64 f] w (FloFound xs f w) := by
  obtain ⟨p, c, rfl⟩ := hv.slice
  have HV := Lib.hid hv
  have hmk := mkAny xs.length (by omega)
  clear hv
  go_enter Tryz.func19, Tryz.ntmps19
  go_wp2
  have HR := Lib.hid (World.rowIs_made w .nilIface xs.length 20)
  go_loopw [17] (fun i wr => ∃ k : Nat, k ≤ xs.length ∧ i = .int .i64 k ∧ Hid (Below w.heap.size w wr) ∧ Hid (wr.rowIs w.heap.size 20 xs.length (fillI xs k))) (fun i _ => xs.length - (intOf i).toNat)
  case atStart => exact ⟨0, Nat.zero_le _, rfl, Lib.hid ((Below.refl _ _).alloc (Nat.le_refl _) _), Lib.hid (HR.out.congr fun i _ => by unfold fillI; rw [if_neg (by omega)])⟩
  case round =>
    obtain ⟨k, hk, rfl, HB, HW⟩ := hrel
    clear HR hmk
    by_cases hlt : k < xs.length
    · obtain ⟨b, o, c', he, hc⟩ : ∃ b o c', Value.slice p xs.length c = .slice (some ⟨b, o, none⟩) xs.length c' ∧ w.cell? ⟨b, o + k, none⟩ = some (.int .i64 xs[k]) := by
        rcases HV.out with ⟨h1, h2⟩ | ⟨a, cap, h1, h2⟩ | ⟨b, o, cap, h1, h2⟩
        · rw [h2] at hlt; simp at hlt
        · rw [h2] at hlt; simp at hlt
        · exact ⟨b, o, cap, h1, h2 k hlt⟩
      simp only [Value.slice.injEq, true_and] at he
      obtain ⟨rfl, rfl⟩ := he
      have hcell : wr.cell? ⟨b, o + k, none⟩ = some (.int .i64 xs[k]) := by
        rw [(HB.out.cell (p := ⟨b, o + k, none⟩) (lt_of_cell' hc)), hc]
      have h1 : wr.cell? ⟨w.heap.size, k, none⟩ = some (fillI xs k k) := HW.out.cell hlt
      have h2 : wr.frozen? ⟨w.heap.size, k, none⟩ = false := HW.out.frozen k
      have kg : (0 : Int) ≤ k := by omega
      clear hc
      go_wp2
      go_roundw
      case rel => exact ⟨k + 1, by omega, by go_num, Lib.hid (HB.out.setCell (Nat.le_refl _) _), Lib.hid ((HW.out.set k _).congr fun i _ => fillI_step xs k hlt i)⟩
      case measure => simp [intOf]; omega
    · have hkn : k = xs.length := by omega
      have HI := Lib.hid (fun u => index2_flo u w.heap.size 0 xs.length xs.length (fun j => .iface 3 (.int .i64 (xs.getD j 0))) f wr hn (fun j hj => by
        rw [Nat.zero_add, HW.out.cell hj]; unfold fillI; rw [if_pos (by omega)]))
      clear hkn
      go_wp2_with fail
      refine (HI.out _).mono ?_
      rintro e w' ⟨⟨n, hn1, rfl⟩, rfl⟩
      have HN := Lib.hid hn1
      clear hn1
      unfold pickV
      cases hp : pickI xs.length n with
      | none =>
        have HP := Lib.hid hp
        clear hp
        go_wp2_with fail
        go_ret3
        exact ⟨⟨n, HN.out, by unfold Found; rw [HP.out]; rfl⟩, HB.out⟩
      | some j =>
        have HP := Lib.hid hp
        clear hp
        obtain ⟨y, hy⟩ : ∃ y, y = xs.getD j 0 := ⟨_, rfl⟩
        simp only [← hy]
        have HY := Lib.hid hy
        clear hy
        go_wp2_with fail
        go_ret3
        exact ⟨⟨n, HN.out, by unfold Found; rw [HP.out]; simp only [← HY.out]; rfl⟩, HB.out⟩
theorem ints_cell {W : World} {p : Option Addr} {c : Nat} {xs : List Int} (h : Ints W (.slice p xs.length c) xs) {k : Nat} (hk : k < xs.length) :
    ∃ b o c', Value.slice p xs.length c = .slice (some ⟨b, o, none⟩) xs.length c' ∧ W.cell? ⟨b, o + k, none⟩ = some (.int .i64 (xs.getD k 0)) := by
  rcases h with ⟨h1, h2⟩ | ⟨a, cap, h1, h2⟩ | ⟨b, o, cap, h1, h2⟩
  · rw [h2] at hk; simp at hk
  · rw [h2] at hk; simp at hk
  · exact ⟨b, o, cap, h1, by rw [h2 k hk]; simp [List.getD, hk]⟩
/-- zzPick. -/
def pickN (n : Nat) (i : Int) : Int := match pickI n i with | some k => k | none => -1
theorem zzPick (n : Nat) (i : Int) (w : World) (hn : (n : Int) ≤ 1048576) (hi : -9223372036854775808 ≤ i ∧ i ≤ 9223372036854775807) :
    Calls Tryz.prog 20 #[.int .i64 n, .int .i64 i] w fun e w' => e = .returned (.int .i64 (pickN n i)) ∧ w = w' := by
  unfold pickN pickI
  by_cases h1 : 0 ≤ i ∧ i < n
  · rw [if_pos h1]
    obtain ⟨h1, h2⟩ := h1
    have e : ((i.toNat : Nat) : Int) = i := by omega
    simp only [e]
    clear e
    go_enter Tryz.func20, Tryz.ntmps20
    go_wp2
    go_ret
    exact ⟨rfl, rfl⟩
  · rw [if_neg h1]
    by_cases h2 : i < 0 ∧ 0 ≤ i + n
    · rw [if_pos h2]
      obtain ⟨h2, h3⟩ := h2
      have e : (((i + n).toNat : Nat) : Int) = n + i := by omega
      simp only [e]
      have h4 : ¬ (0 ≤ i) := by omega
      have h5 : -(n : Int) ≤ i := by omega
      clear e h1
      go_enter Tryz.func20, Tryz.ntmps20
      go_wp2
      go_ret
      exact ⟨rfl, rfl⟩
    · rw [if_neg h2]
      by_cases h3 : i < 0
      · have h4 : ¬ (0 ≤ i) := by omega
        have h5 : i < -(n : Int) := by omega
        clear h1 h2
        go_enter Tryz.func20, Tryz.ntmps20
        go_wp2
        go_ret
        exact ⟨rfl, rfl⟩
      · have h4 : (0 ≤ i) := by omega
        have h5 : (n : Int) ≤ i := by omega
        clear h1 h2
        go_enter Tryz.func20, Tryz.ntmps20
        go_wp2
        go_ret
        exact ⟨rfl, rfl⟩
end Go.Proofs.YtfgepnbfideliaaGreatDoor
