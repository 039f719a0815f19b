/- The model zzb1Model answers what Compare answers. -/
import Derived.Test.YtmfigefooicgiaaGreatDoorCM44
namespace Go.Proofs.YtmfigefooicgiaaGreatDoor
open Go.RowKit
set_option maxRecDepth 100000
set_option maxHeartbeats 4000000
theorem fnz_shift (g : Nat → Int) (d : Int) : ∀ r i, fnz g d r (i + 1) = fnz (fun j => g (j + 1)) d r i
  | 0, _ => rfl
  | r + 1, i => by unfold fnz; rw [fnz_shift g d r (i + 1)]
theorem fnz_congr (g h : Nat → Int) (d : Int) : ∀ r i, (∀ j, i ≤ j → j < i + r → g j = h j) → fnz g d r i = fnz h d r i
  | 0, _, _ => rfl
  | r + 1, i, e => by
    unfold fnz
    rw [e i (Nat.le_refl _) (by omega), fnz_congr g h d r (i + 1) (fun j h1 h2 => e j (by omega) (by omega))]
def bt (l : List UInt8) (i : Nat) : Int := ((l.getD i 0).toNat : Int)
def cmpB (l r : List UInt8) : Int := if Op.bytesLess l r then -1 else if l == r then 0 else 1
theorem cmpB_fnz : ∀ l r : List UInt8, cmpB l r = fnz (fun i => cmpI (bt l i) (bt r i)) (cmpI l.length r.length) (min l.length r.length) 0
  | [], [] => rfl
  | [], b :: r => by
    show cmpB [] (b :: r) = cmpI (([] : List UInt8).length : Int) ((b :: r).length : Int)
    rw [cmpI_lt (by simp only [List.length_nil, List.length_cons]; omega)]; rfl
  | a :: l, [] => by
    show cmpB (a :: l) [] = cmpI ((a :: l).length : Int) (([] : List UInt8).length : Int)
    rw [cmpI_gt (by simp only [List.length_nil, List.length_cons]; omega)]
    unfold cmpB
    simp [Op.bytesLess]
  | a :: l, b :: r => by
    have hm : min (a :: l).length (b :: r).length = min l.length r.length + 1 := by simp only [List.length_cons]; omega
    have hc : cmpI ((a :: l).length : Int) ((b :: r).length : Int) = cmpI (l.length : Int) (r.length : Int) := by
      simp only [List.length_cons]
      unfold cmpI
      repeat' split
      all_goals omega
    rw [hm, hc]
    show cmpB (a :: l) (b :: r) = if cmpI (a.toNat : Int) (b.toNat : Int) = 0 then fnz (fun i => cmpI (bt (a :: l) i) (bt (b :: r) i)) (cmpI l.length r.length) (min l.length r.length) (0 + 1) else cmpI (a.toNat : Int) (b.toNat : Int)
    rw [fnz_shift]
    show _ = if cmpI (a.toNat : Int) (b.toNat : Int) = 0 then fnz (fun i => cmpI (bt l i) (bt r i)) (cmpI l.length r.length) (min l.length r.length) 0 else cmpI (a.toNat : Int) (b.toNat : Int)
    rw [← cmpB_fnz l r]
    by_cases h : a = b
    · subst h
      rw [cmpI_self, if_pos rfl]
      unfold cmpB
      simp [Op.bytesLess]
    · have hne : a.toNat ≠ b.toNat := fun e => h (UInt8.toNat_inj.1 e)
      by_cases h2 : a.toNat < b.toNat
      · rw [cmpI_lt (by omega), if_neg (by decide)]
        unfold cmpB
        have : Op.bytesLess (a :: l) (b :: r) = true := by simp [Op.bytesLess, UInt8.lt_iff_toNat_lt, h2]
        rw [if_pos this]
      · rw [cmpI_gt (by omega), if_neg (by decide)]
        unfold cmpB
        have : Op.bytesLess (a :: l) (b :: r) = false := by simp [Op.bytesLess, UInt8.lt_iff_toNat_lt, h2, h]
        rw [this]
        simp [h]
theorem cmpS_fnz (s t : ByteArray) : cmpS s t = fnz (fun i => cmpI (byteI s i) (byteI t i)) (cmpI s.size t.size) (min s.size t.size) 0 := by
  have e : ∀ u : ByteArray, u.toList.length = u.size := fun u => by rw [ByteArray.toList_eq]; simp
  have eb : ∀ (u : ByteArray) (i : Nat), i < u.size → bt u.toList i = byteI u i := fun u i h => by
    rw [byteI_at h]
    unfold bt
    have h' : i < u.toList.length := by rw [e]; exact h
    rw [List.getD, List.getElem?_eq_getElem h']
    simp only [Option.getD_some]
    congr 2
    simp only [ByteArray.toList_eq]
    rfl
  show cmpB s.toList t.toList = _
  rw [cmpB_fnz, e, e]
  exact fnz_congr _ _ _ _ _ (fun j _ h => by rw [eb s j (by omega), eb t j (by omega)])
theorem mBytes (s t : ByteArray) (w : World) (hm : (s.size : Int) ≤ 1048576) (hn : (t.size : Int) ≤ 1048576) :
    Calls Tryz.prog 24 #[.string s, .string t] w fun e w' => e = .returned (.int .i64 (cmpS s t)) ∧ ∃ q, w' = w.drewN q := by
  rw [cmpS_fnz]
  exact mBytes_core (min s.size t.size) s t w hm hn (by omega)
theorem mInts (p q : Option Addr) (c d : Nat) (xs ys : List Int) (w : World) (hx : Ints w (.slice p xs.length c) xs) (hy : Ints w (.slice q ys.length d) ys) (hm : (xs.length : Int) ≤ 1048576) (hn : (ys.length : Int) ≤ 1048576) :
    Calls Tryz.prog 25 #[.slice p xs.length c, .slice q ys.length d] w fun e w' => e = .returned (.int .i64 (fnz (fun i => cmpI (xs.getD i 0) (ys.getD i 0)) (cmpI xs.length ys.length) (min xs.length ys.length) 0)) ∧ ∃ q, w' = w.drewN q := by
  by_cases h0 : xs.length = 0 ∨ ys.length = 0
  · refine (mInts0 p q xs.length ys.length c d w hm hn h0).mono fun e w' ⟨h1, h2⟩ => ⟨?_, 0, h2.symm⟩
    rw [h1, show min xs.length ys.length = 0 by omega]; rfl
  · have real : ∀ {p : Option Addr} {c : Nat} {xs : List Int}, Ints w (.slice p xs.length c) xs → xs.length ≠ 0 → ∃ b o, p = some ⟨b, o, none⟩ ∧ ∀ i, i < xs.length → w.cell? ⟨b, o + i, none⟩ = some (.int .i64 (xs.getD i 0)) := fun {p c xs} h hne => by
      rcases h with ⟨_, rfl⟩ | ⟨_, _, _, rfl⟩ | ⟨b, o, cap, e, hc⟩
      · exact absurd rfl hne
      · exact absurd rfl hne
      · simp only [Value.slice.injEq] at e
        exact ⟨b, o, e.1, fun i hi => by rw [hc i hi]; simp [List.getD, hi]⟩
    obtain ⟨b1, o1, rfl, hc1⟩ := real hx (by omega)
    obtain ⟨b2, o2, rfl, hc2⟩ := real hy (by omega)
    exact mInts_core (min xs.length ys.length) xs.length ys.length c d b1 o1 b2 o2 _ _ w hm hn (by omega) hc1 hc2
/-- The kind's rank. -/
def rk (k : Int) (b : Bool) : Int := if k = 1 then (if b then 2 else 1) else if k = 2 ∨ k = 3 then 3 else if k = 4 then 4 else if k = 5 then 5 else if k = 6 then 6 else 0
theorem mRank (k : Int) (b : Bool) (w : World) : Calls Tryz.prog 21 #[.int .i64 k, .bool b] w fun e w' => e = .returned (.int .i64 (rk k b)) ∧ w = w' := by
  have n1 : normI 1 = 1 := rfl
  have n2 : normI 2 = 2 := rfl
  have n3 : normI 3 = 3 := rfl
  have n4 : normI 4 = 4 := rfl
  have n5 : normI 5 = 5 := rfl
  have n6 : normI 6 = 6 := rfl
  by_cases h : k = 1 ∨ k = 2 ∨ k = 3 ∨ k = 4 ∨ k = 5 ∨ k = 6
  · rcases h with rfl | rfl | rfl | rfl | rfl | rfl <;> cases b
    all_goals
      go_enter Tryz.func21, Tryz.ntmps21
      go_wp2_with (go_at_call 13; refine (norm _ _).mono ?_; rintro e w' ⟨rfl, rfl⟩)
      go_ret
      exact ⟨rfl, rfl⟩
  · have n0 : normI k = 0 := by unfold normI; split <;> omega
    have r0 : rk k b = 0 := by unfold rk; rw [if_neg (by omega), if_neg (by omega), if_neg (by omega), if_neg (by omega), if_neg (by omega)]
    rw [r0]
    clear h r0
    go_enter Tryz.func21, Tryz.ntmps21
    go_wp2_with (go_at_call 13; refine (norm _ _).mono ?_; rintro e w' ⟨rfl, rfl⟩)
    go_ret
    exact ⟨rfl, rfl⟩
theorem rk_idx (a : V) : a.x.idx = rk a.k a.b := by
  unfold V.x toX rk
  by_cases h1 : a.k = 1
  · rw [if_pos h1, if_pos h1]; rfl
  · rw [if_neg h1, if_neg h1]
    repeat' split
    all_goals first | rfl | omega
theorem cmp_of_ne (x y : X) (h : x.idx ≠ y.idx) : x.cmp y = cmpI x.idx y.idx := by
  cases x <;> cases y <;> first | rfl | exact absurd rfl h
theorem rk3 {k : Int} {b : Bool} (h : rk k b = 3) : k = 2 ∨ k = 3 := by
  unfold rk at h
  repeat' split at h
  all_goals first | assumption | omega
theorem rk4 {k : Int} {b : Bool} (h : rk k b = 4) : k = 4 := by
  unfold rk at h
  repeat' split at h
  all_goals first | assumption | omega
theorem rk5 {k : Int} {b : Bool} (h : rk k b = 5) : k = 5 := by
  unfold rk at h
  repeat' split at h
  all_goals first | assumption | omega
theorem rk6 {k : Int} {b : Bool} (h : rk k b = 6) : k = 6 := by
  unfold rk at h
  repeat' split at h
  all_goals first | assumption | omega
theorem rk_cases (k : Int) (b : Bool) : (rk k b = 0 ∨ rk k b = 1 ∨ rk k b = 2) ∨ rk k b = 3 ∨ rk k b = 4 ∨ rk k b = 5 ∨ rk k b = 6 := by
  unfold rk
  repeat' split
  all_goals omega
theorem cmp_low (x y : X) (h : x.idx = y.idx) (h3 : x.idx < 3) : x.cmp y = 0 := by
  cases x <;> cases y <;> first | (exfalso; simp only [X.idx] at h3; omega) | (simp only [X.cmp]; exact cmpI_eq h)
theorem mModel (ak : Int) (ab : Bool) (an : Int) (af : Nat) (a5 : ByteArray) (ap : Option Addr) (ac : Nat) (xs : List Int) (bk : Int) (bb : Bool) (bn : Int) (bf : Nat) (b5 : ByteArray) (bp : Option Addr) (bc : Nat) (ys : List Int) (w : World)
    (hx : Ints w (.slice ap xs.length ac) xs) (hy : Ints w (.slice bp ys.length bc) ys) (lx : (xs.length : Int) ≤ 1048576) (ly : (ys.length : Int) ≤ 1048576) (hs : (a5.size : Int) ≤ 1048576) (ht : (b5.size : Int) ≤ 1048576) :
    Calls Tryz.prog 16 #[.int .i64 ak, .bool ab, .int .i64 an, .float .f64 af, .string a5, .slice ap xs.length ac, .int .i64 bk, .bool bb, .int .i64 bn, .float .f64 bf, .string b5, .slice bp ys.length bc] w fun e w' => e = .returned (.int .i64 ((toX ak ab an af a5 xs).cmp (toX bk bb bn bf b5 ys))) ∧ ∃ q, w' = w.drewN q := by
  have ra : (toX ak ab an af a5 xs).idx = rk ak ab := rk_idx ⟨ak, ab, an, af, a5, ap, xs.length, ac, xs⟩
  have rb : (toX bk bb bn bf b5 ys).idx = rk bk bb := rk_idx ⟨bk, bb, bn, bf, b5, bp, ys.length, bc, ys⟩
  have HX := Lib.hid hx
  have HY := Lib.hid hy
  clear hx hy
  by_cases hne : rk ak ab = rk bk bb
  case neg =>
    have hc := cmp_of_ne (toX ak ab an af a5 xs) (toX bk bb bn bf b5 ys) (by rw [ra, rb]; exact hne)
    rw [hc, ra, rb]
    have t0 : (rk ak ab != rk bk bb) = true := by simpa using hne
    clear ra rb hc hne lx ly hs ht
    go_enter Tryz.func16, Tryz.ntmps16
    go_wp2_with (first | (go_at_call 21; refine (mRank _ _ _).mono ?_; rintro e w' ⟨rfl, rfl⟩) | (go_at_call 22; refine (mInt _ _ _).mono ?_; rintro e w' ⟨rfl, rfl⟩))
    go_ret
    exact ⟨rfl, 0, rfl⟩
  case pos =>
    rcases rk_cases ak ab with hr | hr | hr | hr | hr
    · have hc := cmp_low (toX ak ab an af a5 xs) (toX bk bb bn bf b5 ys) (by rw [ra, rb]; exact hne) (by rw [ra]; omega)
      rw [hc]
      clear ra rb hc lx ly hs ht HX HY
      obtain ⟨r, er, h3⟩ : ∃ r, rk ak ab = r ∧ (r = 0 ∨ r = 1 ∨ r = 2) := ⟨_, rfl, hr⟩
      have er2 : rk bk bb = r := hne.symm.trans er
      clear hr hne
      rcases h3 with rfl | rfl | rfl
      all_goals
        go_enter Tryz.func16, Tryz.ntmps16
        go_wp2_with (first | (go_at_call 21; refine (mRank _ _ _).mono ?_; rintro e w' ⟨rfl, rfl⟩))
        go_ret
        exact ⟨rfl, 0, rfl⟩
    · have hr2 := hne.symm.trans hr
      have n2 : normI 2 = 2 := rfl
      have n3 : normI 3 = 3 := rfl
      have k2 : ∀ c, rk 2 c = 3 := fun c => rfl
      have k3 : ∀ c, rk 3 c = 3 := fun c => rfl
      clear ra rb lx ly hs ht HX HY hne
      rcases rk3 hr with rfl | rfl <;> rcases rk3 hr2 with rfl | rfl
      all_goals
        clear hr hr2
        go_enter Tryz.func16, Tryz.ntmps16
        go_wp2_with (first | (go_at_call 21; refine (mRank _ _ _).mono ?_; rintro e w' ⟨rfl, rfl⟩) | (go_at_call 13; refine (norm _ _).mono ?_; rintro e w' ⟨rfl, rfl⟩) | (go_at_call 22; refine (mInt _ _ _).mono ?_; rintro e w' ⟨rfl, rfl⟩) | (go_at_call 23; refine (mFlo _ _ _).mono ?_; rintro e w' ⟨rfl, rfl⟩))
        go_ret
        exact ⟨rfl, 0, rfl⟩
    · obtain rfl := rk4 hr
      obtain rfl := rk4 (hne.symm.trans hr)
      have k4 : ∀ c, rk 4 c = 4 := fun c => rfl
      have HM := Lib.hid (mBytes a5 b5 w hs ht)
      clear ra rb lx ly hs ht HX HY hne hr
      go_enter Tryz.func16, Tryz.ntmps16
      go_wp2_with (first | (go_at_call 21; refine (mRank _ _ _).mono ?_; rintro e w' ⟨rfl, rfl⟩))
      refine HM.out.mono ?_
      rintro e w1 ⟨rfl, hq⟩
      have HQ := Lib.hid hq
      clear hq
      go_wp2_with fail
      go_ret
      exact ⟨rfl, HQ.out⟩
    · obtain rfl := rk5 hr
      obtain rfl := rk5 (hne.symm.trans hr)
      have k5 : ∀ c, rk 5 c = 5 := fun c => rfl
      have HM := Lib.hid (mInts ap bp ac bc xs ys w HX.out HY.out lx ly)
      clear ra rb lx ly hs ht HX HY hne hr
      go_enter Tryz.func16, Tryz.ntmps16
      go_wp2_with (first | (go_at_call 21; refine (mRank _ _ _).mono ?_; rintro e w' ⟨rfl, rfl⟩))
      refine HM.out.mono ?_
      rintro e w1 ⟨rfl, hq⟩
      have HQ := Lib.hid hq
      clear hq
      go_wp2_with fail
      go_ret
      exact ⟨rfl, HQ.out⟩
    · obtain rfl := rk6 hr
      obtain rfl := rk6 (hne.symm.trans hr)
      have k6 : ∀ c, rk 6 c = 6 := fun c => rfl
      have HM := Lib.hid (mBytes a5 b5 w hs ht)
      have hX : (toX 6 ab an af a5 xs).cmp (toX 6 bb bn bf b5 ys) = if cmpS a5 b5 = 0 then cmpI an bn else cmpS a5 b5 := rfl
      rw [hX]
      clear ra rb lx ly hs ht HX HY hne hr hX
      by_cases h0 : cmpS a5 b5 = 0
      · rw [if_pos h0]
        have t0 : (cmpS a5 b5 != 0) = false := by simp [h0]
        clear h0
        go_enter Tryz.func16, Tryz.ntmps16
        go_wp2_with (first | (go_at_call 21; refine (mRank _ _ _).mono ?_; rintro e w' ⟨rfl, rfl⟩))
        refine HM.out.mono ?_
        rintro e w1 ⟨rfl, hq⟩
        have HQ := Lib.hid hq
        clear hq
        go_wp2_with (first | (go_at_call 22; refine (mInt _ _ _).mono ?_; rintro e w' ⟨rfl, rfl⟩))
        go_ret
        exact ⟨rfl, HQ.out⟩
      · rw [if_neg h0]
        have t0 : (cmpS a5 b5 != 0) = true := by simp [h0]
        clear h0
        go_enter Tryz.func16, Tryz.ntmps16
        go_wp2_with (first | (go_at_call 21; refine (mRank _ _ _).mono ?_; rintro e w' ⟨rfl, rfl⟩))
        refine HM.out.mono ?_
        rintro e w1 ⟨rfl, hq⟩
        have HQ := Lib.hid hq
        clear hq
        go_wp2_with fail
        go_ret
        exact ⟨rfl, HQ.out⟩
theorem out53 (n : Int) (w : World) : Calls Tryz.prog 20 #[.int .i64 n] w fun e w' => AnyBool e ∧ w = w' := by
  go_enter Tryz.func20, Tryz.ntmps20
  go_wp2
  all_goals
    go_ret
    exact ⟨⟨_, rfl⟩, rfl⟩
theorem mixed (a b c d : Int) (w : World) : Calls Tryz.prog 15 #[.int .i64 a, .int .i64 b, .int .i64 c, .int .i64 d] w fun e w' => AnyBool e ∧ w = w' := by
  go_enter Tryz.func15, Tryz.ntmps15
  go_wp2_with (first | (go_at_call 13; refine (norm _ _).mono ?_; rintro e w' ⟨rfl, rfl⟩) | (go_at_call 20; refine (out53 _ _).mono ?_; rintro e w' ⟨⟨b, rfl⟩, rfl⟩))
  all_goals
    go_ret
    exact ⟨⟨_, rfl⟩, rfl⟩
end Go.Proofs.YtmfigefooicgiaaGreatDoor
