/- A float64 cut to an int, by its place to 2^53 and 2^63: plain facts. -/
import Derived.Test.YtfgepnbfideliaaGreatDoorTa
import Derived.Laws.FloatArith
namespace Go.Proofs.YtfgepnbfideliaaGreatDoor
open Ieee
/-- The magnitude of a number, cut. -/
def cutMag (m : Nat) (p : Int) : Nat := (m <<< p.toNat) / 2 ^ (-p).toNat
theorem cut_zero (s : Bool) (n d : Nat) : Toward.zero.cut s n d = n / 2 ^ d := by
  unfold Toward.cut
  simp only [Bool.toNat_false, Nat.add_zero, Nat.one_shiftLeft]
  rcases Nat.le_total d (n.log2 + 2) with h | h
  · rw [Nat.min_eq_left h]
  · rw [Nat.min_eq_right h]
    have h1 : n < 2 ^ (n.log2 + 2) := Nat.lt_of_lt_of_le (Nat.lt_log2_self) (Nat.pow_le_pow_right (by omega) (by omega))
    have h2 : n < 2 ^ d := Nat.lt_of_lt_of_le h1 (Nat.pow_le_pow_right (by omega) h)
    rw [Nat.div_eq_of_lt h1, Nat.div_eq_of_lt h2]
theorem toInt_number (s : Bool) (m : Nat) (p : Int) : (Datum.number s m p).toInt .zero = some (if s then -(cutMag m p : Int) else cutMag m p) := by
  unfold Datum.toInt Datum.integral
  simp only [cut_zero, signed, cutMag, Nat.shiftLeft_zero]
/-- A magnitude held against 2 ^ (52 + q). -/
theorem mag_lt (m q : Nat) (p : Int) : (m <<< (p - min p q).toNat < 2 ^ 52 <<< ((q : Int) - min p q).toNat) ↔ cutMag m p < 2 ^ (52 + q) := by
  unfold cutMag
  rw [Nat.shiftLeft_eq, Nat.shiftLeft_eq, Nat.shiftLeft_eq, ← Nat.pow_add]
  rcases Int.lt_or_le p 0 with h | h
  · obtain ⟨d, rfl⟩ : ∃ d : Nat, p = -(d : Int) := ⟨(-p).toNat, by omega⟩
    have e1 : (-(d : Int) - min (-(d : Int)) q).toNat = 0 := by omega
    have e2 : ((q : Int) - min (-(d : Int)) q).toNat = q + d := by omega
    have e3 : (-(d : Int)).toNat = 0 := by omega
    have e4 : (- -(d : Int)).toNat = d := by omega
    rw [e1, e2, e3, e4, Nat.pow_zero, Nat.mul_one, Nat.div_lt_iff_lt_mul (Nat.two_pow_pos d), ← Nat.pow_add, Nat.add_assoc]
  · obtain ⟨e, rfl⟩ : ∃ e : Nat, p = e := ⟨p.toNat, by omega⟩
    have e3 : (-(e : Int)).toNat = 0 := by omega
    rw [e3, Nat.pow_zero, Nat.div_one, Int.toNat_natCast]
    rcases Nat.le_total q e with hq | hq
    · have e1 : ((e : Int) - min (e : Int) q).toNat = e - q := by omega
      have e2 : ((q : Int) - min (e : Int) q).toNat = 0 := by omega
      rw [e1, e2]
      have : 2 ^ e = 2 ^ (e - q) * 2 ^ q := by rw [← Nat.pow_add]; congr 1; omega
      rw [this, ← Nat.mul_assoc, Nat.pow_add, Nat.pow_add, Nat.pow_zero, Nat.mul_one]
      exact (Nat.mul_lt_mul_right (Nat.two_pow_pos q)).symm
    · have e1 : ((e : Int) - min (e : Int) q).toNat = 0 := by omega
      have e2 : ((q : Int) - min (e : Int) q).toNat = q - e := by omega
      rw [e1, e2, Nat.pow_zero, Nat.mul_one]
      have : 2 ^ (52 + q) = 2 ^ (52 + (q - e)) * 2 ^ e := by rw [← Nat.pow_add]; congr 1; omega
      rw [this]
      exact (Nat.mul_lt_mul_right (Nat.two_pow_pos e)).symm
theorem mag_eq (m q : Nat) (p : Int) (h : m <<< (p - min p q).toNat = 2 ^ 52 <<< ((q : Int) - min p q).toNat) : cutMag m p = 2 ^ (52 + q) := by
  unfold cutMag
  rw [Nat.shiftLeft_eq, Nat.shiftLeft_eq, ← Nat.pow_add] at h
  rw [Nat.shiftLeft_eq]
  rcases Int.lt_or_le p 0 with h0 | h0
  · obtain ⟨d, rfl⟩ : ∃ d : Nat, p = -(d : Int) := ⟨(-p).toNat, by omega⟩
    have e1 : (-(d : Int) - min (-(d : Int)) q).toNat = 0 := by omega
    have e2 : ((q : Int) - min (-(d : Int)) q).toNat = q + d := by omega
    have e3 : (-(d : Int)).toNat = 0 := by omega
    have e4 : (- -(d : Int)).toNat = d := by omega
    rw [e1, e2, Nat.pow_zero, Nat.mul_one] at h
    rw [e3, e4, Nat.pow_zero, Nat.mul_one, h, ← Nat.add_assoc, Nat.pow_add, Nat.mul_div_cancel _ (Nat.two_pow_pos d)]
  · obtain ⟨e, rfl⟩ : ∃ e : Nat, p = e := ⟨p.toNat, by omega⟩
    have e3 : (-(e : Int)).toNat = 0 := by omega
    rw [e3, Nat.pow_zero, Nat.div_one, Int.toNat_natCast]
    rcases Nat.le_total q e with hq | hq
    · have e1 : ((e : Int) - min (e : Int) q).toNat = e - q := by omega
      have e2 : ((q : Int) - min (e : Int) q).toNat = 0 := by omega
      rw [e1, e2] at h
      have : 2 ^ e = 2 ^ (e - q) * 2 ^ q := by rw [← Nat.pow_add]; congr 1; omega
      rw [this, ← Nat.mul_assoc, h, ← Nat.pow_add]
    · have e1 : ((e : Int) - min (e : Int) q).toNat = 0 := by omega
      have e2 : ((q : Int) - min (e : Int) q).toNat = q - e := by omega
      rw [e1, e2, Nat.pow_zero, Nat.mul_one] at h
      rw [h, ← Nat.pow_add]
      congr 1; omega
/-- The value of a number, cut. -/
def cutVal (s : Bool) (m : Nat) (p : Int) : Int := if s then -(cutMag m p : Int) else cutMag m p
theorem compare_lt {a b : Int} : (some (compare a b) == some Ordering.lt) = decide (a < b) := by
  rw [show compare a b = (if a < b then Ordering.lt else if a = b then .eq else .gt) from rfl]
  by_cases h : a < b
  · simp [h]
  · rw [if_neg h, decide_eq_false h]
    by_cases h2 : a = b <;> simp [h2]
theorem compare_gt {a b : Int} : (some (compare a b) == some Ordering.gt) = decide (b < a) := by
  rw [show compare a b = (if a < b then Ordering.lt else if a = b then .eq else .gt) from rfl]
  by_cases h : a < b
  · rw [if_pos h, decide_eq_false (by omega)]; rfl
  · rw [if_neg h]
    by_cases h2 : a = b
    · rw [if_pos h2, decide_eq_false (by omega)]; rfl
    · rw [if_neg h2, decide_eq_true (by omega)]; rfl
/-- A number is below 2 ^ (52 + q). -/
theorem order_lt (s : Bool) (m q : Nat) (p : Int) : ((Datum.number s m p).order (.number false (2 ^ 52) q) == some .lt) = decide (cutVal s m p < 2 ^ (52 + q)) := by
  have h := mag_lt m q p
  have hp : 0 < 2 ^ 52 <<< ((q : Int) - min p q).toNat := by rw [Nat.shiftLeft_eq]; exact Nat.mul_pos (Nat.two_pow_pos _) (Nat.two_pow_pos _)
  have hq := Nat.two_pow_pos (52 + q)
  have c1 : ((2 ^ (52 + q) : Nat) : Int) = 2 ^ (52 + q) := by simp
  unfold Datum.order
  simp only
  rw [compare_lt, ← c1]
  unfold signed cutVal
  generalize m <<< (p - min p ↑q).toNat = A at *
  generalize 2 ^ 52 <<< ((q : Int) - min p q).toNat = B at *
  generalize 2 ^ (52 + q) = C at *
  generalize cutMag m p = D at *
  cases s
  · simp only [Bool.false_eq_true, if_false]
    rw [decide_eq_decide]
    omega
  · simp only [if_true, Bool.false_eq_true, if_false]
    rw [decide_eq_true, decide_eq_true]
    · omega
    · omega
/-- A number is above - 2 ^ (52 + q). -/
theorem order_gt (s : Bool) (m q : Nat) (p : Int) : ((Datum.number s m p).order (.number true (2 ^ 52) q) == some .gt) = decide (-(2 ^ (52 + q)) < cutVal s m p) := by
  have h := mag_lt m q p
  have hp : 0 < 2 ^ 52 <<< ((q : Int) - min p q).toNat := by rw [Nat.shiftLeft_eq]; exact Nat.mul_pos (Nat.two_pow_pos _) (Nat.two_pow_pos _)
  have hq := Nat.two_pow_pos (52 + q)
  have c1 : ((2 ^ (52 + q) : Nat) : Int) = 2 ^ (52 + q) := by simp
  unfold Datum.order
  simp only
  rw [compare_gt, ← c1]
  unfold signed cutVal
  generalize m <<< (p - min p ↑q).toNat = A at *
  generalize 2 ^ 52 <<< ((q : Int) - min p q).toNat = B at *
  generalize 2 ^ (52 + q) = C at *
  generalize cutMag m p = D at *
  cases s
  · simp only [Bool.false_eq_true, if_false, if_true]
    rw [decide_eq_true, decide_eq_true]
    · omega
    · omega
  · simp only [if_true]
    rw [decide_eq_decide]
    omega
theorem compare_le {a b : Int} : (some (compare a b) == some Ordering.lt || some (compare a b) == some Ordering.eq) = decide (a ≤ b) := by
  rw [show compare a b = (if a < b then Ordering.lt else if a = b then .eq else .gt) from rfl]
  by_cases h : a < b
  · rw [if_pos h, decide_eq_true (by omega)]; rfl
  · rw [if_neg h]
    by_cases h2 : a = b
    · rw [if_pos h2, decide_eq_true (by omega)]; rfl
    · rw [if_neg h2, decide_eq_false (by omega)]; rfl
/-- - 2 ^ (52 + q) is at most a number: what holds of the number, cut. -/
theorem order_le (s : Bool) (m q : Nat) (p : Int) :
    (((Datum.number true (2 ^ 52) q).order (.number s m p) == some .lt || (Datum.number true (2 ^ 52) q).order (.number s m p) == some .eq) = true → -(2 ^ (52 + q)) ≤ cutVal s m p) ∧
    (((Datum.number true (2 ^ 52) q).order (.number s m p) == some .lt || (Datum.number true (2 ^ 52) q).order (.number s m p) == some .eq) = false → cutVal s m p ≤ -(2 ^ (52 + q))) := by
  have h := mag_lt m q p
  have hp : 0 < 2 ^ 52 <<< ((q : Int) - min p q).toNat := by rw [Nat.shiftLeft_eq]; exact Nat.mul_pos (Nat.two_pow_pos _) (Nat.two_pow_pos _)
  have hq := Nat.two_pow_pos (52 + q)
  have c1 : ((2 ^ (52 + q) : Nat) : Int) = 2 ^ (52 + q) := by simp
  have hle := mag_eq m q p
  unfold Datum.order
  simp only
  rw [compare_le, ← c1, Int.min_comm]
  unfold signed cutVal
  generalize m <<< (p - min p ↑q).toNat = A at *
  generalize 2 ^ 52 <<< ((q : Int) - min p q).toNat = B at *
  generalize 2 ^ (52 + q) = C at *
  generalize cutMag m p = D at *
  cases s
  · simp only [Bool.false_eq_true, if_false, if_true, decide_eq_true_eq, decide_eq_false_iff_not]
    omega
  · simp only [if_true, decide_eq_true_eq, decide_eq_false_iff_not]
    omega
/-- 2^53, 2^63 and their opposites as float64 words. -/
theorem read_p53 : Format.read Ieee.double 4845873199050653696 = .number false (2 ^ 52) ((1 : Nat) : Int) := by decide
theorem read_n53 : Format.read Ieee.double 14069245235905429504 = .number true (2 ^ 52) ((1 : Nat) : Int) := by decide
theorem read_p63 : Format.read Ieee.double 4890909195324358656 = .number false (2 ^ 52) ((11 : Nat) : Int) := by decide
theorem read_n63 : Format.read Ieee.double 14114281232179134464 = .number true (2 ^ 52) ((11 : Nat) : Int) := by decide
theorem read_zero : Format.read Ieee.double 0 = .number false 0 (-1074) := by decide
/-- How a float64 stands to 2^53 and to the ints, and what it is cut to. -/
inductive FloPlace (f : Nat) : Prop
  | near (n : Int) (h1 : (FloatKind.f64.format.order f 14069245235905429504 == some .gt) = true) (h2 : (FloatKind.f64.format.order f 4845873199050653696 == some .lt) = true)
      (h3 : (FloatKind.f64.format.order 14114281232179134464 f == some .lt || FloatKind.f64.format.order 14114281232179134464 f == some .eq) = true) (h4 : (FloatKind.f64.format.order f 4890909195324358656 == some .lt) = true)
      (hv : floatToIntVal .f64 f .i64 = some n) (l : -9007199254740992 < n) (u : n < 9007199254740992)
  | far (n : Int) (h12 : ((FloatKind.f64.format.order f 14069245235905429504 == some .gt) && (FloatKind.f64.format.order f 4845873199050653696 == some .lt)) = false)
      (h3 : (FloatKind.f64.format.order 14114281232179134464 f == some .lt || FloatKind.f64.format.order 14114281232179134464 f == some .eq) = true) (h4 : (FloatKind.f64.format.order f 4890909195324358656 == some .lt) = true)
      (hv : floatToIntVal .f64 f .i64 = some n) (l : n ≤ -9007199254740992 ∨ 9007199254740992 ≤ n)
  | out (h12 : ((FloatKind.f64.format.order f 14069245235905429504 == some .gt) && (FloatKind.f64.format.order f 4845873199050653696 == some .lt)) = false)
      (h34 : ((FloatKind.f64.format.order 14114281232179134464 f == some .lt || FloatKind.f64.format.order 14114281232179134464 f == some .eq) && (FloatKind.f64.format.order f 4890909195324358656 == some .lt)) = false)
theorem flo_place (f : Nat) : FloPlace f := by
  have hf : FloatKind.f64.format = Ieee.double := rfl
  have hv0 : floatToIntVal .f64 f .i64 = match (Format.read Ieee.double f).toInt .zero with | some n => if -9223372036854775808 ≤ n ∧ n ≤ 9223372036854775807 then some n else none | none => none := rfl
  rcases hd : Format.read Ieee.double f with ⟨s, m, p⟩ | s | ⟨s, t⟩
  · have a1 : (FloatKind.f64.format.order f 14069245235905429504 == some .gt) = decide (-(2 ^ (52 + 1)) < cutVal s m p) := by rw [hf, Format.order, hd, read_n53]; exact order_gt s m 1 p
    have a2 : (FloatKind.f64.format.order f 4845873199050653696 == some .lt) = decide (cutVal s m p < 2 ^ (52 + 1)) := by rw [hf, Format.order, hd, read_p53]; exact order_lt s m 1 p
    have a4 : (FloatKind.f64.format.order f 4890909195324358656 == some .lt) = decide (cutVal s m p < 2 ^ (52 + 11)) := by rw [hf, Format.order, hd, read_p63]; exact order_lt s m 11 p
    have a3 := order_le s m 11 p
    rw [← hd, ← read_n63] at a3
    change ((FloatKind.f64.format.order 14114281232179134464 f == some .lt || FloatKind.f64.format.order 14114281232179134464 f == some .eq) = true → _) ∧ ((FloatKind.f64.format.order 14114281232179134464 f == some .lt || FloatKind.f64.format.order 14114281232179134464 f == some .eq) = false → _) at a3
    rw [hd, toInt_number] at hv0
    change floatToIntVal .f64 f .i64 = if -9223372036854775808 ≤ cutVal s m p ∧ cutVal s m p ≤ 9223372036854775807 then some (cutVal s m p) else none at hv0
    have p1 : (2 : Int) ^ (52 + 1) = 9007199254740992 := by decide
    have p2 : (2 : Int) ^ (52 + 11) = 9223372036854775808 := by decide
    rw [p1] at a1 a2
    rw [p2] at a3 a4
    generalize cutVal s m p = v at *
    cases h3 : (FloatKind.f64.format.order 14114281232179134464 f == some .lt || FloatKind.f64.format.order 14114281232179134464 f == some .eq)
    · have h5 := a3.2 h3
      refine .out ?_ (by rw [h3]; rfl)
      rw [a1, decide_eq_false (by omega)]; rfl
    · have h5 := a3.1 h3
      by_cases h4 : v < 9223372036854775808
      · rw [if_pos (by omega)] at hv0
        by_cases h6 : -9007199254740992 < v ∧ v < 9007199254740992
        · exact .near v (by rw [a1, decide_eq_true h6.1]) (by rw [a2, decide_eq_true h6.2]) h3 (by rw [a4, decide_eq_true h4]) hv0 h6.1 h6.2
        · refine .far v ?_ h3 (by rw [a4, decide_eq_true h4]) hv0 (by omega)
          rw [a1, a2]
          by_cases h7 : -9007199254740992 < v
          · rw [decide_eq_false (show ¬ v < 9007199254740992 by omega), Bool.and_false]
          · rw [decide_eq_false h7, Bool.false_and]
      · refine .out ?_ ?_
        · rw [a2, decide_eq_false (by omega), Bool.and_false]
        · rw [a4, decide_eq_false h4, Bool.and_false]
  · refine .out ?_ ?_
    · rw [hf, Format.order, Format.order, hd, read_n53, read_p53]; cases s <;> rfl
    · rw [hf, Format.order, Format.order, hd, read_n63, read_p63]; cases s <;> rfl
  · refine .out ?_ ?_
    · rw [hf, Format.order, Format.order, hd, read_n53, read_p53]; rfl
    · rw [hf, Format.order, Format.order, hd, read_n63, read_p63]; rfl
end Go.Proofs.YtfgepnbfideliaaGreatDoor
