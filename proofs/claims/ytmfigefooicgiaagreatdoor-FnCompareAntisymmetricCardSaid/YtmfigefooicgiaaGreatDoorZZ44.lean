/- The shims ZZCompare and ZZTypeIndex of this seat. -/
import Derived.Test.YtmfigefooicgiaaGreatDoorLaw44
import Derived.Deep.RegionHeld3
namespace Go.Proofs.YtmfigefooicgiaaGreatDoor
open Go.RowKit
set_option maxRecDepth 100000
set_option maxHeartbeats 1000000
/-- A ZZV value: the Go struct and what it reads as. -/
structure V where
  k : Int
  b : Bool
  n : Int
  f : Nat
  s : ByteArray
  p : Option Addr
  l : Nat
  c : Nat
  xs : List Int
def V.val (a : V) : Value := .agg #[.int .i64 a.k, .bool a.b, .int .i64 a.n, .float .f64 a.f, .string a.s, .slice a.p a.l a.c]
def V.x (a : V) : X := toX a.k a.b a.n a.f a.s a.xs
def V.ok (w : World) (a : V) : Prop := Ints w (.slice a.p a.l a.c) a.xs ∧ (a.xs.length : Int) ≤ 1048576
theorem V.ok.below {w w' : World} {a : V} (h : a.ok w) (hb : Below w.heap.size w w') : a.ok w' := ⟨h.1.below hb, h.2⟩
theorem V.small {w : World} {a : V} (h : a.ok w) : a.x.small := by
  unfold V.x toX
  repeat' split
  all_goals first | trivial | exact h.2
def BoxOf (W : World) (n : Nat) (a : V) : Prop :=
  W.cell? ⟨n, 0, none⟩ = some (.int .i64 a.k) ∧ W.cell? ⟨n, 1, none⟩ = some (.bool a.b) ∧ W.cell? ⟨n, 2, none⟩ = some (.int .i64 a.n) ∧ W.cell? ⟨n, 3, none⟩ = some (.float .f64 a.f) ∧ W.cell? ⟨n, 4, none⟩ = some (.string a.s) ∧ W.cell? ⟨n, 5, none⟩ = some (.slice a.p a.l a.c)
theorem toAnyV (a : V) (w : World) (h : a.ok w) : Calls Tryz.prog 18 #[a.val] w fun e w' => ∃ u, e = .returned u ∧ IsX w' u a.x ∧ Below w.heap.size w w' :=
  toAny a.k a.b a.n a.f a.s _ a.xs w h.1 h.2
theorem zzType (a : V) (w : World) (h : a.ok w) : Calls Tryz.prog 10 #[a.val] w fun e w' => e = .returned (.int .i64 a.x.idx) ∧ Below w.heap.size w w' := by
  have H := Lib.hid (toAnyV a (w.alloc (.cells #[.int .i64 a.k, .bool a.b, .int .i64 a.n, .float .f64 a.f, .string a.s, .slice a.p a.l a.c] 28)) (h.below ((Below.refl _ _).alloc (Nat.le_refl _) _)))
  clear h
  unfold V.val at *
  go_enter Tryz.func10, Tryz.ntmps10
  go_wp2_with fail
  refine H.out.mono ?_
  rintro e w' ⟨u, rfl, hu, hb⟩
  have HU := Lib.hid hu
  have HB := Lib.hid hb
  clear hu hb
  go_wp2_with fail
  refine (typeIndexX a.x u w' HU.out).mono ?_
  rintro e w'' ⟨rfl, rfl⟩
  go_wp2_with fail
  go_ret
  exact ⟨rfl, ((Below.refl _ _).alloc (Nat.le_refl _) _).trans (HB.out.mono (by simp))⟩
theorem BoxOf.below {W W' : World} {n : Nat} {a : V} (h : BoxOf W n a) (hb : Below W.heap.size W W') : BoxOf W' n a := by
  obtain ⟨h0, h1, h2, h3, h4, h5⟩ := h
  have hlt := lt_of_cell h0
  exact ⟨(hb.cell (p := ⟨n, 0, none⟩) hlt).trans h0, (hb.cell (p := ⟨n, 1, none⟩) hlt).trans h1, (hb.cell (p := ⟨n, 2, none⟩) hlt).trans h2, (hb.cell (p := ⟨n, 3, none⟩) hlt).trans h3, (hb.cell (p := ⟨n, 4, none⟩) hlt).trans h4, (hb.cell (p := ⟨n, 5, none⟩) hlt).trans h5⟩
/-- What holds throughout the region of ZZCompare. -/
abbrev Sx (w : World) (a b : V) (W : World) : Prop := (W.cell? ⟨w.heap.size, 0, none⟩ = some (.int .i64 a.k) ∧ W.cell? ⟨w.heap.size, 1, none⟩ = some (.bool a.b) ∧ W.cell? ⟨w.heap.size, 2, none⟩ = some (.int .i64 a.n) ∧ W.cell? ⟨w.heap.size, 3, none⟩ = some (.float .f64 a.f) ∧ W.cell? ⟨w.heap.size, 4, none⟩ = some (.string a.s) ∧ W.cell? ⟨w.heap.size, 5, none⟩ = some (.slice a.p a.l a.c)) ∧ (W.cell? ⟨w.heap.size + 1, 0, none⟩ = some (.int .i64 b.k) ∧ W.cell? ⟨w.heap.size + 1, 1, none⟩ = some (.bool b.b) ∧ W.cell? ⟨w.heap.size + 1, 2, none⟩ = some (.int .i64 b.n) ∧ W.cell? ⟨w.heap.size + 1, 3, none⟩ = some (.float .f64 b.f) ∧ W.cell? ⟨w.heap.size + 1, 4, none⟩ = some (.string b.s) ∧ W.cell? ⟨w.heap.size + 1, 5, none⟩ = some (.slice b.p b.l b.c)) ∧ Hid (Below w.heap.size w W)
theorem Sx.below {w W W' : World} {a b : V} (h : Sx w a b W) (hb : Below W.heap.size W W') : Sx w a b W' :=
  ⟨BoxOf.below h.1 hb, BoxOf.below h.2.1 hb, h.2.2.out.trans (hb.mono h.2.2.out.size)⟩
theorem zzCmp (a b : V) (w : World) (ha : a.ok w) (hb : b.ok w) : Calls Tryz.prog 11 #[a.val, b.val] w fun e w' => e = .returned (.int .i64 (a.x.cmp b.x)) ∧ Below w.heap.size w w' := by
  have HA := Lib.hid ha
  have HB := Lib.hid hb
  clear ha hb
  unfold V.val at *
  go_enter Tryz.func11, Tryz.ntmps11
  go_wp2_with fail
  obtain ⟨W2, hW2⟩ : ∃ W2, W2 = (w.alloc (.cells #[.int .i64 a.k, .bool a.b, .int .i64 a.n, .float .f64 a.f, .string a.s, .slice a.p a.l a.c] 28)).alloc (.cells #[.int .i64 b.k, .bool b.b, .int .i64 b.n, .float .f64 b.f, .string b.s, .slice b.p b.l b.c] 28) := ⟨_, rfl⟩
  have hb2 : Below w.heap.size w W2 := by rw [hW2]; exact ((Below.refl _ _).alloc (Nat.le_refl _) _).alloc (by simp) _
  have hz2 : W2.heap.size = w.heap.size + 1 + 1 := by rw [hW2]; simp
  obtain ⟨a0, a1, a2, a3, a4, a5⟩ : BoxOf W2 w.heap.size a := by rw [hW2]; exact ⟨by simp, by simp, by simp, by simp, by simp, by simp⟩
  obtain ⟨b0, b1, b2, b3, b4, b5⟩ : BoxOf W2 (w.heap.size + 1) b := by rw [hW2]; exact ⟨by simp, by simp, by simp, by simp, by simp, by simp⟩
  rw [← hW2]
  have HA2 := Lib.hid (HA.out.below hb2)
  have HB2 := Lib.hid (HB.out.below hb2)
  have HZ2 := Lib.hid hz2
  have HL2 := Lib.hid hb2
  clear hW2 hz2 hb2
  have hSx : Sx w a b W2 := ⟨⟨a0, a1, a2, a3, a4, a5⟩, ⟨b0, b1, b2, b3, b4, b5⟩, HL2⟩
  go_region_held3 (fun W => (W.cell? ⟨w.heap.size, 0, none⟩ = some (.int .i64 a.k) ∧ W.cell? ⟨w.heap.size, 1, none⟩ = some (.bool a.b) ∧ W.cell? ⟨w.heap.size, 2, none⟩ = some (.int .i64 a.n) ∧ W.cell? ⟨w.heap.size, 3, none⟩ = some (.float .f64 a.f) ∧ W.cell? ⟨w.heap.size, 4, none⟩ = some (.string a.s) ∧ W.cell? ⟨w.heap.size, 5, none⟩ = some (.slice a.p a.l a.c)) ∧ (W.cell? ⟨w.heap.size + 1, 0, none⟩ = some (.int .i64 b.k) ∧ W.cell? ⟨w.heap.size + 1, 1, none⟩ = some (.bool b.b) ∧ W.cell? ⟨w.heap.size + 1, 2, none⟩ = some (.int .i64 b.n) ∧ W.cell? ⟨w.heap.size + 1, 3, none⟩ = some (.float .f64 b.f) ∧ W.cell? ⟨w.heap.size + 1, 4, none⟩ = some (.string b.s) ∧ W.cell? ⟨w.heap.size + 1, 5, none⟩ = some (.slice b.p b.l b.c)) ∧ Hid (Below w.heap.size w W)) (first | assumption | (refine ⟨⟨a0, a1, a2, a3, a4, a5⟩, ⟨b0, b1, b2, b3, b4, b5⟩, Lib.hid HL2.out.drew⟩) | go_keep)
    (first
      | (go_at_call_of 18 (Value.agg #[.int .i64 a.k, .bool a.b, .int .i64 a.n, .float .f64 a.f, .string a.s, .slice a.p a.l a.c]); refine (toAnyV a _ ?_).mono ?_; exact HA2.out; rintro e w' ⟨u, rfl, hu, hb⟩; have hSx' : Sx w a b w' := Sx.below (by assumption) hb; have HU := Lib.hid hu; clear hu hb)
      | (go_at_call_of 18 (Value.agg #[.int .i64 b.k, .bool b.b, .int .i64 b.n, .float .f64 b.f, .string b.s, .slice b.p b.l b.c]); refine (toAnyV b _ ?_).mono ?_; exact V.ok.below HB.out hSx'.2.2.out; rintro e w' ⟨u2, rfl, hu2, hb2⟩; have HU1 := Lib.hid (HU.out.below hb2); have hSx'' : Sx w a b w' := Sx.below (by assumption) hb2; have HU2 := Lib.hid hu2; clear hu2 hb2)
      | (go_at_call 19; refine (compareX a.x b.x _ _ _ HU1.out HU2.out (V.small HA.out) (V.small HB.out)).mono ?_; rintro e w3 ⟨rfl, hb3⟩; have hSx3 : Sx w a b w3 := Sx.below (by assumption) hb3; have HB3 := Lib.hid hb3; clear hb3))
  go_wp2_with fail
  go_ret
  exact ⟨rfl, hSx3.2.2.out⟩
end Go.Proofs.YtmfigefooicgiaaGreatDoor
