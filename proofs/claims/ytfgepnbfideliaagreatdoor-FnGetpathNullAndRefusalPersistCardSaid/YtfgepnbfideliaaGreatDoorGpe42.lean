/- The sizes of a matrix. -/
import Derived.Test.YtfgepnbfideliaaGreatDoorGpd42
namespace Go.Proofs.YtfgepnbfideliaaGreatDoor
open Go.RowKit
set_option maxRecDepth 100000
set_option maxHeartbeats 8000000
/-- What matrixBytes hands out. -/
def Sized (m : List (List Int)) (w : World) (e : Ending) (w' : World) : Prop :=
  ∃ n : Int, e = .returned (.int .i64 n) ∧ 0 ≤ n ∧ n ≤ 1073741824 ∧ Hid (n ≤ 1048576 → (m.length : Int) ≤ 65536 ∧ ∀ r, r < m.length → ((m.getD r []).length : Int) ≤ 131072) ∧ w = w'
theorem matBytes (p : Option Addr) (c : Nat) (m : List (List Int)) (w : World) (hv : Mat2 w (.slice p m.length c) m) (hl : (m.length : Int) ≤ 9223372036854775807) (hr : ∀ r, r < m.length → ((m.getD r []).length : Int) ≤ 9223372036854775807) :
    Calls Tryz.prog 24 #[.slice p m.length c] w (Sized m w) := by
  have HV := Lib.hid hv
  have HR := Lib.hid hr
  clear hv hr
  by_cases h0 : (m.length : Int) ≤ 65536
  · go_enter Tryz.func24, Tryz.ntmps24
    go_wp2_with fail
    go_loopw [3, 4] (fun t i wr => ∃ (T : Int) (k : Nat), k ≤ m.length ∧ t = .int .i64 T ∧ i = .int .i64 k ∧ 0 ≤ T ∧ T ≤ 1572864 ∧ Hid (∀ r, r < k → ((m.getD r []).length : Int) ≤ 131072) ∧ wr = w) (fun _ i _ => m.length - (intOf i).toNat)
    case atStart => exact ⟨24 * m.length, 0, Nat.zero_le _, by go_num, rfl, by omega, by omega, Lib.hid (fun r h => by omega), rfl⟩
    case round =>
      obtain ⟨T, k, hk, rfl, rfl, t1, t2, HK, hw⟩ := hrel
      rw [hw]
      clear hw
      by_cases hlt : k < m.length
      · obtain ⟨b, o, c', p2, c2, he, hc, hi⟩ := mat_cell HV.out hlt
        simp only [Value.slice.injEq, true_and] at he
        obtain ⟨rfl, rfl⟩ := he
        have hL := HR.out k hlt
        have HLE : Hid ((m.getD k []).length ≤ 131072 → ∀ r, r < k + 1 → ((m.getD r []).length : Int) ≤ 131072) := Lib.hid (fun h r hr => by
          by_cases e : r = k
          · subst e; omega
          · exact HK.out r (by omega))
        generalize (m.getD k []).length = L at *
        have HLT := Lib.hid hlt
        have kl : (k : Int) < m.length := by omega
        have kg : (0 : Int) ≤ k := by omega
        clear hi
        by_cases h1 : (L : Int) ≤ 131072
        · by_cases h2 : T + 8 * (L : Int) ≤ 1048576
          · go_wp2_with fail
            go_roundw
            case rel => exact ⟨T + 8 * L, k + 1, HLT.out, by go_num, by go_num, by omega, by omega, Lib.hid (HLE.out (by omega)), by first | rfl | trivial⟩
            case measure => simp [intOf]; omega
          · go_wp2_with fail
            go_ret
            exact ⟨1073741824, rfl, by omega, by omega, Lib.hid (fun h => by omega), rfl⟩
        · go_wp2_with fail
          go_ret
          exact ⟨1073741824, rfl, by omega, by omega, Lib.hid (fun h => by omega), rfl⟩
      · have HK2 : Hid (∀ r, r < m.length → ((m.getD r []).length : Int) ≤ 131072) := Lib.hid (fun r hr => HK.out r (by omega))
        go_wp2_with fail
        go_ret
        exact ⟨T, rfl, by omega, by omega, Lib.hid (fun _ => ⟨h0, HK2.out⟩), rfl⟩
  · go_enter Tryz.func24, Tryz.ntmps24
    go_wp2_with fail
    go_ret
    exact ⟨1073741824, rfl, by omega, by omega, Lib.hid (fun h => by omega), rfl⟩
/-- True or false, and nothing done. -/
def Told (w : World) (e : Ending) (w' : World) : Prop := (∃ t : Bool, e = .returned (.bool t)) ∧ w = w'
theorem zzBytesG (p q q2 s s2 : Option Addr) (c d d2 l1 l2 l3 l4 c3 c4 : Nat) (key : ByteArray) (m : List (List Int)) (w : World) (hv : Mat2 w (.slice p m.length c) m) (hl : (m.length : Int) ≤ 9223372036854775807) (hr : ∀ r, r < m.length → ((m.getD r []).length : Int) ≤ 9223372036854775807)
    (h1 : (l1 : Int) ≤ 9223372036854775807) (h2 : (l2 : Int) ≤ 9223372036854775807) (h3 : (l3 : Int) ≤ 9223372036854775807) (h4 : (l4 : Int) ≤ 9223372036854775807) (h5 : (key.size : Int) ≤ 9223372036854775807) :
    Calls Tryz.prog 23 #[.slice p m.length c, .slice q l1 d, .slice q2 l2 d2, .slice s l3 c3, .slice s2 l4 c4, .string key] w (Told w) := by
  have HV := Lib.hid hv
  have HR := Lib.hid hr
  clear hv hr
  by_cases h0 : (m.length : Int) ≤ 1048576
  · go_enter Tryz.func23, Tryz.ntmps23
    go_wp2_with fail
    go_loopw [13, 14] (fun t i wr => ∃ (T : Int) (k : Nat), k ≤ m.length ∧ t = .int .i64 T ∧ i = .int .i64 k ∧ 0 ≤ T ∧ T ≤ 1048576 ∧ wr = w) (fun _ i _ => m.length - (intOf i).toNat)
    case atStart => exact ⟨m.length, 0, Nat.zero_le _, by go_num, rfl, by omega, by omega, rfl⟩
    case round =>
      obtain ⟨T, k, hk, rfl, rfl, t1, t2, hw⟩ := hrel
      rw [hw]
      clear hw
      by_cases hlt : k < m.length
      · obtain ⟨b, o, c', p2, c2, he, hc, hi⟩ := mat_cell HV.out hlt
        simp only [Value.slice.injEq, true_and] at he
        obtain ⟨rfl, rfl⟩ := he
        have hL := HR.out k hlt
        generalize (m.getD k []).length = L at *
        have HLT := Lib.hid hlt
        have kl : (k : Int) < m.length := by omega
        have kg : (0 : Int) ≤ k := by omega
        clear hi
        by_cases h6 : (L : Int) ≤ 1048576
        · by_cases h7 : T + (L : Int) ≤ 1048576
          · go_wp2_with fail
            go_roundw
            case rel => exact ⟨T + L, k + 1, HLT.out, by go_num, by go_num, by omega, by omega, by first | rfl | trivial⟩
            case measure => simp [intOf]; omega
          · go_wp2_with fail
            go_ret
            first | exact ⟨⟨false, rfl⟩, rfl⟩ | exact ⟨⟨true, rfl⟩, rfl⟩
        · go_wp2_with fail
          go_ret
          first | exact ⟨⟨false, rfl⟩, rfl⟩ | exact ⟨⟨true, rfl⟩, rfl⟩
      · go_wp2
        all_goals
          go_ret
          first | exact ⟨⟨false, rfl⟩, rfl⟩ | exact ⟨⟨true, rfl⟩, rfl⟩
  · go_enter Tryz.func23, Tryz.ntmps23
    go_wp2_with fail
    go_ret
    first | exact ⟨⟨false, rfl⟩, rfl⟩ | exact ⟨⟨true, rfl⟩, rfl⟩
end Go.Proofs.YtfgepnbfideliaaGreatDoor
