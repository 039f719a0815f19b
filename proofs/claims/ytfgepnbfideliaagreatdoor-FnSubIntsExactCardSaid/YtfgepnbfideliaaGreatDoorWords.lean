/- Integers as two words of 64 bits: plain facts. -/
import Derived.Test.YtfgepnbfideliaaGreatDoorTa
namespace Go.Proofs.YtfgepnbfideliaaGreatDoor
def hi64 (x : Int) : Int := if x < 0 then 18446744073709551615 else 0
def lo64 (x : Int) : Int := x % 18446744073709551616
def addHi (ah al bh bl : Int) : Int := (ah + bh + (if (al + bl) % 18446744073709551616 < al then 1 else 0)) % 18446744073709551616
theorem add_lo (a b : Int) : (lo64 a + lo64 b) % 18446744073709551616 = lo64 (a + b) := by unfold lo64; omega
theorem add_hi (a b : Int) (ha : -9223372036854775808 ≤ a ∧ a ≤ 9223372036854775807) (hb : -9223372036854775808 ≤ b ∧ b ≤ 9223372036854775808) : addHi (hi64 a) (lo64 a) (hi64 b) (lo64 b) = hi64 (a + b) := by
  unfold addHi hi64 lo64
  repeat' split
  all_goals omega
/-- The opposite of a word pair: every bit turned, then one added. -/
theorem neg_hi (a : Int) (ha : -9223372036854775808 ≤ a ∧ a ≤ 9223372036854775808) : addHi (18446744073709551615 - hi64 a) (18446744073709551615 - lo64 a) 0 1 = hi64 (-a) := by
  unfold addHi hi64 lo64
  repeat' split
  all_goals omega
theorem neg_lo (a : Int) : (18446744073709551615 - lo64 a + 1) % 18446744073709551616 = lo64 (-a) := by unfold lo64; omega
theorem hi_range (a : Int) : 0 ≤ hi64 a ∧ hi64 a ≤ 18446744073709551615 := by unfold hi64; split <;> omega
theorem lo_range (a : Int) : 0 ≤ lo64 a ∧ lo64 a ≤ 18446744073709551615 := by unfold lo64; omega
end Go.Proofs.YtfgepnbfideliaaGreatDoor
