/- The law's helpers on two words. -/
import Derived.Test.YtfgepnbfideliaaGreatDoorWords
namespace Go.Proofs.YtfgepnbfideliaaGreatDoor
open Go.RowKit
set_option maxRecDepth 100000
set_option maxHeartbeats 4000000
theorem ret2u {a b c d : Int} (h1 : a = c) (h2 : b = d) : Ending.returned (.tuple #[.int .u64 a, .int .u64 b]) = .returned (.tuple #[.int .u64 c, .int .u64 d]) := by rw [h1, h2]
theorem wide19 (x : Int) (w : World) (hx : -9223372036854775808 ≤ x ∧ x ≤ 9223372036854775807) :
    Calls Tryz.prog 9 #[.int .i64 x] w fun e w' => e = .returned (.tuple #[.int .u64 (hi64 x), .int .u64 (lo64 x)]) ∧ w = w' := by
  by_cases h : x < 0
  · go_enter Tryz.func9, Tryz.ntmps9
    go_wp2
    go_ret2
    exact ⟨ret2u (by unfold hi64; rw [if_pos (by omega)]) (by unfold lo64; simp [IntKind.wrap, IntKind.bits, IntKind.signed]), rfl⟩
  · go_enter Tryz.func9, Tryz.ntmps9
    go_wp2
    go_ret2
    exact ⟨ret2u (by unfold hi64; rw [if_neg (by omega)]) (by unfold lo64; omega), rfl⟩
theorem u64_not (h : Int) (h1 : 0 ≤ h ∧ h ≤ 18446744073709551615) : bits BinOp.xor IntKind.u64 IntKind.u64.max h = 18446744073709551615 - h := by
  obtain ⟨a, rfl⟩ : ∃ a : Nat, h = a := ⟨h.toNat, by omega⟩
  show IntKind.u64.wrap ((BitVec.ofInt 64 IntKind.u64.max ^^^ BitVec.ofInt 64 (a : Int)).toNat : Int) = _
  have e1 : BitVec.ofInt 64 IntKind.u64.max = BitVec.allOnes 64 := by decide
  have e2 : (BitVec.ofInt 64 (a : Int)).toNat = a := by
    rw [BitVec.ofInt_natCast, BitVec.toNat_ofNat]; exact Nat.mod_eq_of_lt (by omega)
  rw [e1, BitVec.allOnes_xor, BitVec.toNat_not, e2, IntKind.wrap_u64]
  omega
theorem add19 (ah al bh bl : Int) (w : World) (h1 : 0 ≤ ah ∧ ah ≤ 18446744073709551615) (h2 : 0 ≤ al ∧ al ≤ 18446744073709551615) (h3 : 0 ≤ bh ∧ bh ≤ 18446744073709551615) (h4 : 0 ≤ bl ∧ bl ≤ 18446744073709551615) :
    Calls Tryz.prog 11 #[.int .u64 ah, .int .u64 al, .int .u64 bh, .int .u64 bl] w fun e w' => e = .returned (.tuple #[.int .u64 (addHi ah al bh bl), .int .u64 ((al + bl) % 18446744073709551616)]) ∧ w = w' := by
  go_enter Tryz.func11, Tryz.ntmps11
  go_wp2
  · go_ret2
    have hc : IntKind.u64.wrap (al + bl) < al := by assumption
    rw [IntKind.wrap_u64] at hc
    exact ⟨ret2u (by unfold addHi; rw [if_pos hc]; simp only [IntKind.wrap_u64]; omega) (by rw [IntKind.wrap_u64]), rfl⟩
  · go_ret2
    have hc : al ≤ IntKind.u64.wrap (al + bl) := by assumption
    rw [IntKind.wrap_u64] at hc
    exact ⟨ret2u (by unfold addHi; rw [if_neg (by omega)]; simp only [IntKind.wrap_u64]; omega) (by rw [IntKind.wrap_u64]), rfl⟩
theorem neg19 (h l : Int) (w : World) (h1 : 0 ≤ h ∧ h ≤ 18446744073709551615) (h2 : 0 ≤ l ∧ l ≤ 18446744073709551615) :
    Calls Tryz.prog 10 #[.int .u64 h, .int .u64 l] w fun e w' => e = .returned (.tuple #[.int .u64 (addHi (18446744073709551615 - h) (18446744073709551615 - l) 0 1), .int .u64 ((18446744073709551615 - l + 1) % 18446744073709551616)]) ∧ w = w' := by
  have n1 := u64_not h h1
  have n2 := u64_not l h2
  have H := Lib.hid (add19 (18446744073709551615 - h) (18446744073709551615 - l) 0 1 w (by omega) (by omega) (by omega) (by omega))
  generalize addHi (18446744073709551615 - h) (18446744073709551615 - l) 0 1 = rh at *
  generalize (18446744073709551615 - l + 1) % 18446744073709551616 = rl at *
  go_enter Tryz.func10, Tryz.ntmps10
  go_wp2_with fail
  refine H.out.mono ?_
  rintro e w' ⟨rfl, rfl⟩
  go_wp2_with fail
  go_ret2
  exact ⟨rfl, rfl⟩
def Fits (h l : Int) : Bool := if l < 9223372036854775808 then h == 0 else h == 18446744073709551615
theorem fits19 (h l : Int) (w : World) (h1 : 0 ≤ h ∧ h ≤ 18446744073709551615) (h2 : 0 ≤ l ∧ l ≤ 18446744073709551615) :
    Calls Tryz.prog 31 #[.int .u64 h, .int .u64 l] w fun e w' => e = .returned (.bool (Fits h l)) ∧ w = w' := by
  go_enter Tryz.func31, Tryz.ntmps31
  go_wp2_with fail
  · go_ret
    have hc : (l / 9223372036854775808 == 0) = true := by assumption
    refine ⟨?_, rfl⟩
    unfold Fits
    rw [if_pos (by have := eq_of_beq hc; omega)]
    rfl
  · go_ret
    have hc : (l / 9223372036854775808 == 0) = false := by assumption
    refine ⟨?_, rfl⟩
    unfold Fits
    rw [if_neg (by intro h; rw [show l / 9223372036854775808 = 0 by omega] at hc; cases hc)]
    rfl
end Go.Proofs.YtfgepnbfideliaaGreatDoor
