/- zzSortInts in place, zzHas; the converters of this seat. -/
import Derived.Test.YtfgepnbfideliaaGreatDoorIns
import Derived.Deep.QuietTactic
import Derived.BigQuiet
namespace Go.Proofs.YtfgepnbfideliaaGreatDoor
open Go.RowKit
set_option maxRecDepth 100000
set_option maxHeartbeats 4000000
theorem sort19 (b c : Nat) (xs : List Int) (W : World) (hn : (xs.length : Int) ≤ 1048576) (hw : W.rowIs b 3 xs.length (rowT xs id)) :
    Calls Tryz.prog 16 #[.slice (some ⟨b, 0, none⟩) xs.length c] W fun e w' => e = .returned (.tuple #[]) ∧ (∃ t, Re 0 xs.length id t ∧ Srt (keyP xs xs.length) t 0 xs.length ∧ w'.rowIs b 3 xs.length (rowT xs t)) ∧ Below b W w' := by
  have HT := Lib.hid hw
  clear hw
  by_cases h0 : xs.length = 0
  · rw [h0]
    go_enter Tryz.func16, Tryz.ntmps16
    go_wp2
    refine wp_loop_rounds 1 ?_
    rw [rounds_succ]
    go_wp2
    go_end0
    exact ⟨rfl, ⟨id, Re.refl _ _ _, fun i j _ h1 h2 => by omega, by have := HT.out; rw [h0] at this; exact this⟩, Below.refl _ _⟩
  · go_enter Tryz.func16, Tryz.ntmps16
    go_wp2
    go_loopw [2] (fun vi wr => ∃ (i : Nat) (t : Nat → Nat), vi = .int .i64 i ∧ 1 ≤ i ∧ i ≤ xs.length ∧ Hid (Re 0 i id t ∧ (∀ k, i ≤ k → t k = k) ∧ Srt (keyP xs xs.length) t 0 i) ∧ Hid (Below b W wr) ∧ Hid (wr.rowIs b 3 xs.length (rowT xs t))) (fun i _ => xs.length - (intOf i).toNat)
    case atStart => exact ⟨1, id, rfl, by omega, by omega, Lib.hid ⟨Re.refl _ _ _, fun _ _ => rfl, fun i j _ h1 h2 => by omega⟩, Lib.hid (Below.refl _ _), HT⟩
    case round =>
      clear HT
      obtain ⟨i, t, rfl, hi1, hin, HI, HB, HW⟩ := hrel
      by_cases hlt : i < xs.length
      · obtain ⟨y, hy⟩ : ∃ y, y = keyP xs xs.length (t i) := ⟨_, rfl⟩
        have ci : wr.cell? ⟨b, i, none⟩ = some (.int .i64 y) := by rw [hy]; exact HW.out.cell hlt
        have HY := Lib.hid hy
        clear hy
        go_wp2
        go_loopw [4] (fun vj wr => ∃ j : Nat, vj = .int .i64 j ∧ j ≤ i ∧ Hid (∀ k, j ≤ k → k < i → y < keyP xs xs.length (t k)) ∧ Hid (Below b W wr) ∧ Hid (wr.rowIs b 3 xs.length (rowH xs j i t))) (fun j _ => (intOf j).toNat)
        case atStart => exact ⟨i, rfl, Nat.le_refl _, Lib.hid (fun k h1 h2 => by omega), HB, Lib.hid (HW.out.congr fun k _ => rowH_self xs i t k)⟩
        case round =>
          clear HB HW ci
          obtain ⟨j, rfl, hji, HK, HB, HW⟩ := hrel
          have fj : wr.frozen? ⟨b, j, none⟩ = false := HW.out.frozen _
          obtain ⟨vj, cj⟩ : ∃ v, wr.cell? ⟨b, j, none⟩ = some v := ⟨_, HW.out.cell (by omega)⟩
          by_cases hj : 0 < j
          · obtain ⟨m, rfl⟩ : ∃ m, j = m + 1 := ⟨j - 1, by omega⟩
            obtain ⟨x, hx⟩ : ∃ x, x = keyP xs xs.length (t m) := ⟨_, rfl⟩
            have c1 : wr.cell? ⟨b, m, none⟩ = some (.int .i64 x) := by rw [hx, ← rowH_lo xs t (show m < i by omega)]; exact HW.out.cell (by omega)
            have HX := Lib.hid hx
            have m1 : m < xs.length := by omega
            have m2 : m + 1 < xs.length := by omega
            clear hx
            by_cases hk : y < x
            · go_wp2
              go_roundw
              case rel =>
                exact ⟨m, rfl, by omega, Lib.hid (fun k h1 h2 => by
                  by_cases e : k = m
                  · rw [e, ← HX.out]; exact hk
                  · exact HK.out k (by omega) h2),
                  Lib.hid (Below.setCell HB.out (Nat.le_refl _) _),
                  Lib.hid ((World.rowIs.set HW.out (m + 1) _).congr fun k _ => by rw [HX.out]; exact rowH_step xs t (by omega) k)⟩
              case measure => simp [intOf]
            · go_wp2
              go_roundw
              case rel =>
                exact ⟨i + 1, _, by go_num, by omega, by omega, Lib.hid (ins_out HI.out hji (by rw [← HY.out]; exact HK.out) (Or.inr (by rw [Nat.add_sub_cancel, ← HX.out, ← HY.out]; omega))),
                  Lib.hid (Below.setCell HB.out (Nat.le_refl _) _),
                  Lib.hid ((World.rowIs.set HW.out (m + 1) _).congr fun k _ => by rw [HY.out]; exact rowH_close xs t k)⟩
              case measure => simp [intOf]; omega
          · go_wp2
            go_roundw
            case rel =>
              exact ⟨i + 1, _, by go_num, by omega, by omega, Lib.hid (ins_out HI.out hji (by rw [← HY.out]; exact HK.out) (Or.inl (by omega))),
                Lib.hid (Below.setCell HB.out (Nat.le_refl _) _),
                Lib.hid ((World.rowIs.set HW.out j _).congr fun k _ => by rw [HY.out]; exact rowH_close xs t k)⟩
            case measure => simp [intOf]; omega
      · have hi : i = xs.length := by omega
        subst hi
        go_wp2
        go_end0
        exact ⟨rfl, ⟨t, HI.out.1, HI.out.2.2, HW.out⟩, HB.out⟩
/-- zzHas: a binary search. -/
theorem has19 (b c n : Nat) (g : Nat → Int) (x : Int) (W : World) (hn : (n : Int) ≤ 1048576) (hc : ∀ i, i < n → W.cell? ⟨b, i, none⟩ = some (.int .i64 (g i))) (hs : ∀ i j, i ≤ j → j < n → g i ≤ g j) :
    Calls Tryz.prog 17 #[.slice (some ⟨b, 0, none⟩) n c, .int .i64 x] W fun e w' => (∃ r : Bool, e = .returned (.bool r) ∧ Hid (r = true ↔ ∃ i, i < n ∧ g i = x)) ∧ ∃ q, w' = W.drewN q := by
  have HC := Lib.hid hc
  have HS := Lib.hid hs
  clear hc hs
  go_enter Tryz.func17, Tryz.ntmps17
  go_wp2
  go_loopw [5, 6] (fun vl vh wr => ∃ lo hi : Nat, vl = .int .i64 lo ∧ vh = .int .i64 hi ∧ lo ≤ hi ∧ hi ≤ n ∧ Hid (∀ k, k < lo → g k < x) ∧ Hid (∀ k, hi ≤ k → k < n → x ≤ g k) ∧ Hid (∃ q, wr = W.drewN q)) (fun l h _ => (intOf h).toNat - (intOf l).toNat)
  case atStart => exact ⟨0, n, rfl, rfl, Nat.zero_le _, Nat.le_refl _, Lib.hid (fun k h => by omega), Lib.hid (fun k h1 h2 => by omega), Lib.hid ⟨0, rfl⟩⟩
  case round =>
    obtain ⟨lo, hi, rfl, rfl, hlh, hhn, HL, HH, HW⟩ := hrel
    by_cases hlt : lo < hi
    · obtain ⟨m, hm⟩ : ∃ m, m = (lo + hi) / 2 := ⟨_, rfl⟩
      have e1 : (lo : Int) + ((hi : Int) - lo) / 2 = m := by omega
      have m1 : lo ≤ m := by omega
      have m2 : m < hi := by omega
      have m3 : m < n := by omega
      obtain ⟨y, hy⟩ : ∃ y, y = g m := ⟨_, rfl⟩
      have cm : wr.cell? ⟨b, m, none⟩ = some (.int .i64 y) := by obtain ⟨q, e⟩ := HW.out; rw [e, World.cell?_drewN, hy]; exact HC.out m m3
      have HY := Lib.hid hy
      clear hy hm
      by_cases hk : y < x
      · go_wp2
        go_roundw
        case rel => exact ⟨m + 1, hi, by go_num, rfl, by omega, hhn, Lib.hid (fun k h => by have := HS.out k m (by omega) m3; rw [← HY.out] at this; omega), HH, HW⟩
        case measure => simp [intOf]; omega
      · go_wp2
        go_roundw
        case rel => exact ⟨lo, m, rfl, by go_num, by omega, by omega, HL, Lib.hid (fun k h1 h2 => by have := HS.out m k h1 h2; rw [← HY.out] at this; omega), HW⟩
        case measure => simp [intOf]; omega
    · have he : lo = hi := by omega
      subst he
      clear hlh
      by_cases h2 : lo < n
      · obtain ⟨y, hy⟩ : ∃ y, y = g lo := ⟨_, rfl⟩
        have cm : wr.cell? ⟨b, lo, none⟩ = some (.int .i64 y) := by obtain ⟨q, e⟩ := HW.out; rw [e, World.cell?_drewN, hy]; exact HC.out lo h2
        have HY := Lib.hid hy
        clear hy
        go_wp2
        go_ret
        refine ⟨⟨_, rfl, Lib.hid ?_⟩, HW.out⟩
        constructor
        · intro h; exact ⟨lo, h2, by rw [← HY.out]; simpa using h⟩
        · rintro ⟨i, h3, h4⟩
          have a : ¬ i < lo := fun h => by have := HL.out i h; omega
          have b := HS.out lo i (by omega) h3
          have c := HH.out lo (Nat.le_refl _) h2
          have : y = x := by rw [HY.out]; omega
          simp [this]
      · go_wp2
        go_ret
        refine ⟨⟨_, rfl, Lib.hid ?_⟩, HW.out⟩
        constructor
        · intro h; simp at h
        · rintro ⟨i, h3, h4⟩
          have := HL.out i (by omega)
          omega
end Go.Proofs.YtfgepnbfideliaaGreatDoor
