/- Compare and typeIndex at this seat's abstract values; the shims ZZCompare, ZZTypeIndex. -/
import Derived.Test.YtmfigefooicgiaaGreatDoorVal44
import Derived.Deep.RegionHeld3
namespace Go.Proofs.YtmfigefooicgiaaGreatDoor
open Go.RowKit
set_option maxRecDepth 100000
set_option maxHeartbeats 1000000
def X.idx : X → Int
  | .null => 0
  | .bool b => if b then 2 else 1
  | .int _ => 3
  | .flo _ => 3
  | .str _ => 4
  | .arr _ => 5
  | .obj _ _ => 6
def X.cmp : X → X → Int
  | .int a, .int b => cmpI a b
  | .int a, .flo b => cmpF (floatOfInt .f64 a) b
  | .flo a, .int b => cmpF a (floatOfInt .f64 b)
  | .flo a, .flo b => cmpF a b
  | .str a, .str b => cmpS a b
  | .arr a, .arr b => fnz (fun i => cmpI (a.getD i 0) (b.getD i 0)) (cmpI a.length b.length) (min a.length b.length) 0
  | .obj a m, .obj b n => if cmpS a b = 0 then cmpI m n else cmpS a b
  | x, y => cmpI x.idx y.idx
def X.small : X → Prop
  | .arr xs => (xs.length : Int) ≤ 1048576
  | _ => True
theorem typeIndexX (x : X) (v : Value) (w : World) (h : IsX w v x) :
    Calls Tryz.prog 17 #[v] w fun e w' => e = .returned (.int .i64 x.idx) ∧ w = w' := by
  cases x with
  | null => obtain rfl := h; exact typeIndex .null w
  | bool b => obtain rfl := h; exact typeIndex (.bool b) w
  | int n => obtain rfl := h; exact typeIndex (.int n) w
  | flo f => obtain rfl := h; exact typeIndex (.flo f) w
  | str s => obtain rfl := h; exact typeIndex (.str s) w
  | arr xs => obtain ⟨b, o, c, rfl, _⟩ := h; exact typeIndex (.arr (some ⟨b, o, none⟩) xs.length c) w
  | obj s n => obtain ⟨r, rfl, _⟩ := h; exact typeIndex (.obj (some r)) w
theorem cmpObjAny (r1 r2 : Nat) (s1 s2 : ByteArray) (m n : Int) (w : World) (hb1 : w.heap[r1]? = some (.map #[⟨.string s1, .iface 3 (.int .i64 m), 0⟩] 1)) (hb2 : w.heap[r2]? = some (.map #[⟨.string s2, .iface 3 (.int .i64 n), 0⟩] 1)) :
    Calls Tryz.prog 19 #[.iface 47 (.map (some r1)), .iface 47 (.map (some r2))] w fun e w' => e = .returned (.int .i64 (if cmpS s1 s2 = 0 then cmpI m n else cmpS s1 s2)) ∧ Below w.heap.size w w' := by
  have H : Calls Tryz.prog 33 #[.map (some r1), .map (some r2)] w fun e w' => e = .returned (.int .i64 (if cmpS s1 s2 = 0 then cmpI m n else cmpS s1 s2)) ∧ Below w.heap.size w w' := by
    by_cases h0 : cmpS s1 s2 = 0
    · rw [if_pos h0]; exact cmpObj_eq r1 r2 s1 s2 (.int m) (.int n) _ rfl w hb1 hb2 h0
    · rw [if_neg h0]; exact cmpObj_ne r1 r2 s1 s2 _ _ w hb1 hb2 h0
  have HH := Lib.hid H
  clear H hb1 hb2
  generalize (if cmpS s1 s2 = 0 then cmpI m n else cmpS s1 s2) = c at HH ⊢
  go_enter Tryz.func19, Tryz.ntmps19
  go_wp2_with fail
  refine Calls.mono (R := fun e w' => e = .returned (.int .i64 c) ∧ Below w.heap.size w w') ?_ ?_
  · go_enter Tryz.func26, Tryz.ntmps26
    go_wp2_with fail
    refine HH.out.mono ?_
    rintro e w' ⟨rfl, hw⟩
    have HW := Lib.hid hw
    clear hw
    go_wp2_with fail
    go_ret
    exact ⟨rfl, HW.out⟩
  · rintro e w' ⟨rfl, hw⟩
    have HW := Lib.hid hw
    clear hw
    go_wp2_with fail
    go_ret
    exact ⟨rfl, HW.out⟩
theorem compareX (x y : X) (u v : Value) (w : World) (hx : IsX w u x) (hy : IsX w v y) (sx : x.small) (sy : y.small) :
    Calls Tryz.prog 19 #[u, v] w fun e w' => e = .returned (.int .i64 (x.cmp y)) ∧ Below w.heap.size w w' := by
  have same : ∀ (a b : K) (c : Int), a.cmp b = some c → Calls Tryz.prog 19 #[a.val, b.val] w fun e w' => e = .returned (.int .i64 c) ∧ Below w.heap.size w w' := fun a b c h => (compare a b c h w).mono fun e w' ⟨h1, h2⟩ => ⟨h1, h2 ▸ Below.refl _ _⟩
  cases x with
  | arr xs =>
    obtain ⟨b, o, c, rfl, hc⟩ := hx
    cases y with
    | arr ys =>
      obtain ⟨b2, o2, c2, rfl, hc2⟩ := hy
      refine (cmpArr_any xs.length ys.length c c2 _ _ (fun i => .iface 3 (.int .i64 (xs.getD i 0))) (fun i => .iface 3 (.int .i64 (ys.getD i 0))) (fun i => cmpI (xs.getD i 0) (ys.getD i 0)) w sx sy ⟨b, o, rfl, fun i hi => ?_⟩ ⟨b2, o2, rfl, fun i hi => ?_⟩ (fun i _ _ W => compare (.int _) (.int _) _ rfl W)).mono ?_
      · rw [hc i hi]; simp [List.getD, hi]
      · rw [hc2 i hi]; simp [List.getD, hi]
      · rintro e w' ⟨rfl, q, rfl⟩
        exact ⟨rfl, below_drewN (Below.refl _ _) q⟩
    | null => obtain rfl := hy; exact same (.arr (some ⟨b, o, none⟩) xs.length c) .null _ rfl
    | bool b' => obtain rfl := hy; exact same (.arr (some ⟨b, o, none⟩) xs.length c) (.bool b') _ rfl
    | int n => obtain rfl := hy; exact same (.arr (some ⟨b, o, none⟩) xs.length c) (.int n) _ rfl
    | flo f => obtain rfl := hy; exact same (.arr (some ⟨b, o, none⟩) xs.length c) (.flo f) _ rfl
    | str s => obtain rfl := hy; exact same (.arr (some ⟨b, o, none⟩) xs.length c) (.str s) _ rfl
    | obj s n => obtain ⟨r, rfl, _⟩ := hy; exact same (.arr (some ⟨b, o, none⟩) xs.length c) (.obj (some r)) _ rfl
  | obj s1 n1 =>
    obtain ⟨r1, rfl, hr1⟩ := hx
    cases y with
    | obj s n => obtain ⟨r, rfl, hr⟩ := hy; exact cmpObjAny r1 r s1 s n1 n w hr1 hr
    | null => obtain rfl := hy; exact same (.obj (some r1)) .null _ rfl
    | bool b' => obtain rfl := hy; exact same (.obj (some r1)) (.bool b') _ rfl
    | int n => obtain rfl := hy; exact same (.obj (some r1)) (.int n) _ rfl
    | flo f => obtain rfl := hy; exact same (.obj (some r1)) (.flo f) _ rfl
    | str s => obtain rfl := hy; exact same (.obj (some r1)) (.str s) _ rfl
    | arr ys => obtain ⟨b2, o2, c2, rfl, _⟩ := hy; exact same (.obj (some r1)) (.arr (some ⟨b2, o2, none⟩) ys.length c2) _ rfl
  | null  =>
    obtain rfl := hx
    cases y with
    | null  => obtain rfl := hy; exact same .null .null _ rfl
    | bool b => obtain rfl := hy; exact same .null (.bool b) _ rfl
    | int n => obtain rfl := hy; exact same .null (.int n) _ rfl
    | flo f => obtain rfl := hy; exact same .null (.flo f) _ rfl
    | str s => obtain rfl := hy; exact same .null (.str s) _ rfl
    | arr ys => obtain ⟨b2, o2, c2, rfl, _⟩ := hy; exact same .null (.arr (some ⟨b2, o2, none⟩) ys.length c2) _ rfl
    | obj s n => obtain ⟨r, rfl, _⟩ := hy; exact same .null (.obj (some r)) _ rfl
  | bool b0 =>
    obtain rfl := hx
    cases y with
    | null  => obtain rfl := hy; exact same (.bool b0) .null _ rfl
    | bool b => obtain rfl := hy; exact same (.bool b0) (.bool b) _ rfl
    | int n => obtain rfl := hy; exact same (.bool b0) (.int n) _ rfl
    | flo f => obtain rfl := hy; exact same (.bool b0) (.flo f) _ rfl
    | str s => obtain rfl := hy; exact same (.bool b0) (.str s) _ rfl
    | arr ys => obtain ⟨b2, o2, c2, rfl, _⟩ := hy; exact same (.bool b0) (.arr (some ⟨b2, o2, none⟩) ys.length c2) _ rfl
    | obj s n => obtain ⟨r, rfl, _⟩ := hy; exact same (.bool b0) (.obj (some r)) _ rfl
  | int n0 =>
    obtain rfl := hx
    cases y with
    | null  => obtain rfl := hy; exact same (.int n0) .null _ rfl
    | bool b => obtain rfl := hy; exact same (.int n0) (.bool b) _ rfl
    | int n => obtain rfl := hy; exact same (.int n0) (.int n) _ rfl
    | flo f => obtain rfl := hy; exact same (.int n0) (.flo f) _ rfl
    | str s => obtain rfl := hy; exact same (.int n0) (.str s) _ rfl
    | arr ys => obtain ⟨b2, o2, c2, rfl, _⟩ := hy; exact same (.int n0) (.arr (some ⟨b2, o2, none⟩) ys.length c2) _ rfl
    | obj s n => obtain ⟨r, rfl, _⟩ := hy; exact same (.int n0) (.obj (some r)) _ rfl
  | flo f0 =>
    obtain rfl := hx
    cases y with
    | null  => obtain rfl := hy; exact same (.flo f0) .null _ rfl
    | bool b => obtain rfl := hy; exact same (.flo f0) (.bool b) _ rfl
    | int n => obtain rfl := hy; exact same (.flo f0) (.int n) _ rfl
    | flo f => obtain rfl := hy; exact same (.flo f0) (.flo f) _ rfl
    | str s => obtain rfl := hy; exact same (.flo f0) (.str s) _ rfl
    | arr ys => obtain ⟨b2, o2, c2, rfl, _⟩ := hy; exact same (.flo f0) (.arr (some ⟨b2, o2, none⟩) ys.length c2) _ rfl
    | obj s n => obtain ⟨r, rfl, _⟩ := hy; exact same (.flo f0) (.obj (some r)) _ rfl
  | str s0 =>
    obtain rfl := hx
    cases y with
    | null  => obtain rfl := hy; exact same (.str s0) .null _ rfl
    | bool b => obtain rfl := hy; exact same (.str s0) (.bool b) _ rfl
    | int n => obtain rfl := hy; exact same (.str s0) (.int n) _ rfl
    | flo f => obtain rfl := hy; exact same (.str s0) (.flo f) _ rfl
    | str s => obtain rfl := hy; exact same (.str s0) (.str s) _ rfl
    | arr ys => obtain ⟨b2, o2, c2, rfl, _⟩ := hy; exact same (.str s0) (.arr (some ⟨b2, o2, none⟩) ys.length c2) _ rfl
    | obj s n => obtain ⟨r, rfl, _⟩ := hy; exact same (.str s0) (.obj (some r)) _ rfl
end Go.Proofs.YtmfigefooicgiaaGreatDoor
