/- ZZgetpathMatrix. -/
import Derived.Test.YtfgepnbfideliaaGreatDoorGpa42
import Derived.Test.YtfgepnbfideliaaGreatDoorGpc42
namespace Go.Proofs.YtfgepnbfideliaaGreatDoor
open Go.RowKit
set_option maxRecDepth 100000
set_option maxHeartbeats 8000000
theorem mat_cell {W : World} {p : Option Addr} {c : Nat} {m : List (List Int)} (h : Mat2 W (.slice p m.length c) m) {k : Nat} (hk : k < m.length) :
    ∃ b o c' p2 c2, Value.slice p m.length c = .slice (some ⟨b, o, none⟩) m.length c' ∧ W.cell? ⟨b, o + k, none⟩ = some (.slice p2 (m.getD k []).length c2) ∧ Ints W (.slice p2 (m.getD k []).length c2) (m.getD k []) := by
  have e : m.getD k [] = m[k] := by simp [List.getD, hk]
  rw [e]
  rcases h with ⟨h1, h2⟩ | ⟨a, cap, h1, h2⟩ | ⟨b, o, cap, h1, h2⟩
  · rw [h2] at hk; simp at hk
  · rw [h2] at hk; simp at hk
  · obtain ⟨p2, c2, h3, h4⟩ := h2 k hk
    exact ⟨b, o, cap, p2, c2, h1, h3, h4⟩
theorem ints_cellG {W : World} {p : Option Addr} {c : Nat} {xs : List Int} (h : Ints W (.slice p xs.length c) xs) {k : Nat} (hk : k < xs.length) :
    ∃ b o c', Value.slice p xs.length c = .slice (some ⟨b, o, none⟩) xs.length c' ∧ W.cell? ⟨b, o + k, none⟩ = some (.int .i64 (xs.getD k 0)) := by
  rcases h with ⟨h1, h2⟩ | ⟨a, cap, h1, h2⟩ | ⟨b, o, cap, h1, h2⟩
  · rw [h2] at hk; simp at hk
  · rw [h2] at hk; simp at hk
  · exact ⟨b, o, cap, h1, by rw [h2 k hk]; simp [List.getD, hk]⟩
theorem bools_cell {W : World} {p : Option Addr} {c : Nat} {xs : List Bool} (h : Bools W (.slice p xs.length c) xs) {k : Nat} (hk : k < xs.length) :
    ∃ b o c', Value.slice p xs.length c = .slice (some ⟨b, o, none⟩) xs.length c' ∧ W.cell? ⟨b, o + k, none⟩ = some (.bool (xs.getD k false)) := by
  rcases h with ⟨h1, h2⟩ | ⟨a, cap, h1, h2⟩ | ⟨b, o, cap, h1, h2⟩
  · rw [h2] at hk; simp at hk
  · rw [h2] at hk; simp at hk
  · exact ⟨b, o, cap, h1, by rw [h2 k hk]; simp [List.getD, hk]⟩
def rowF (m : List (List Int)) (bs : Nat → Nat) (k i : Nat) : Value := if i < k then rowV m bs i else .nilIface
def upd (bs : Nat → Nat) (k C r : Nat) : Nat := if r = k then C else bs r
theorem upd_self (bs : Nat → Nat) (k C : Nat) : upd bs k C k = C := if_pos rfl
theorem upd_ne (bs : Nat → Nat) {k C r : Nat} (h : r ≠ k) : upd bs k C r = bs r := if_neg h
theorem row_far {W : World} {b n B k : Nat} {t : TypeId} {f : Nat → Value} {v : Value} (h : W.rowIs b t n f) (hne : b ≠ B) : (W.setCell ⟨B, k, none⟩ v).rowIs b t n f := by
  obtain ⟨c', e1, e2, e3⟩ := h
  exact ⟨c', (Go.Deep.blk_setCell_other _ _ _ _ hne).trans e1, e2, e3⟩
/-- The inner rows that are laid. -/
def Inner (W : World) (B : Nat) (m : List (List Int)) (bs : Nat → Nat) (k : Nat) : Prop :=
  ∀ r, r < k → B < bs r ∧ bs r < W.heap.size ∧ W.rowIs (bs r) 20 (m.getD r []).length (fillI (m.getD r []) (m.getD r []).length)
/-- The path's row when k steps are laid. -/
def pathF (key : ByteArray) (ks : List Bool) (ps : List Int) (k i : Nat) : Value := if i < k then stepV key (ks.getD i false, ps.getD i 0) else .nilIface
theorem pathF_step (key : ByteArray) (ks : List Bool) (ps : List Int) (k : Nat) : ∀ i, (if i = k then stepV key (ks.getD k false, ps.getD k 0) else pathF key ks ps k i) = pathF key ks ps (k + 1) i := by
  intro i
  unfold pathF
  by_cases h : i = k
  · subst h; rw [if_pos rfl, if_pos (by omega)]
  · rw [if_neg h]
    by_cases h2 : i < k
    · rw [if_pos h2, if_pos (by omega)]
    · rw [if_neg h2, if_neg (by omega)]
theorem MatAt.on {w w' : World} {B : Nat} {bs : Nat → Nat} {m : List (List Int)} (h : MatAt w B bs m) (hb : Below w.heap.size w w') : MatAt w' B bs m :=
  ⟨fun r hr => (hb.cell (p := ⟨B, r, none⟩) (lt_of_cell' (h.top r hr))).trans (h.top r hr), fun r hr j hj => (hb.cell (p := ⟨bs r, j, none⟩) (lt_of_cell' (h.cells r hr j hj))).trans (h.cells r hr j hj), h.small⟩
theorem zz_rows (p : Option Addr) (c : Nat) (m : List (List Int)) (q : Option Addr) (d : Nat) (ps : List Int) (q2 : Option Addr) (d2 : Nat) (ks : List Bool) (key : ByteArray) (w : World) (hv : Mat2 w (.slice p m.length c) m) (hx : Ints w (.slice q ps.length d) ps) (hy : Bools w (.slice q2 ks.length d2) ks)
    (hvv : ∀ r, r < m.length → ∀ j, j < (m.getD r []).length → -9223372036854775808 ≤ (m.getD r []).getD j 0 ∧ (m.getD r []).getD j 0 ≤ 9223372036854775807) (hss : ∀ s ∈ ks.zip ps, -9223372036854775808 ≤ s.2 ∧ s.2 ≤ 9223372036854775807) (hl : ks.length = ps.length) (hm : (m.length : Int) ≤ 1048576) (hr : ∀ x ∈ m, (x.length : Int) ≤ 1048576) (hn : (ps.length : Int) ≤ 4194304) :
    Calls Tryz.prog 28 #[.slice p m.length c, .slice q ps.length d, .slice q2 ks.length d2, .string key] w fun e w' => e = .returned (.tuple #[.int .i64 (pathG m (ks.zip ps)).kind, .int .i64 (pathG m (ks.zip ps)).num]) ∧ Below w.heap.size w w' := by
  have HV := Lib.hid hv
  have HX := Lib.hid hx
  have HY := Lib.hid hy
  have HL := Lib.hid hl
  have HVV := Lib.hid hvv
  have HSS := Lib.hid hss
  have HN := Lib.hid hr
  have hmk := mkAny m.length (by omega)
  clear hv hx hy hl hr hvv hss
  go_enter Tryz.func28, Tryz.ntmps28
  go_wp2_with fail
  have HR := Lib.hid (World.rowIs_made w .nilIface m.length 20)
  go_loopw [25] (fun i wr => ∃ (k : Nat) (bs : Nat → Nat), k ≤ m.length ∧ i = .int .i64 k ∧ Hid (Below w.heap.size w wr) ∧ Hid (wr.rowIs w.heap.size 20 m.length (rowF m bs k)) ∧ Hid (Inner wr w.heap.size m bs k) ∧ w.heap.size < wr.heap.size) (fun i _ => m.length - (intOf i).toNat)
  case atStart => exact ⟨0, fun _ => 0, Nat.zero_le _, rfl, Lib.hid ((Below.refl _ _).alloc (Nat.le_refl _) _), Lib.hid (HR.out.congr fun i _ => by unfold rowF; rw [if_neg (by omega)]), Lib.hid (fun r h => by omega), by simp⟩
  case round =>
    obtain ⟨k, bs, hk, rfl, HB, HW, HI, hz⟩ := hrel
    obtain ⟨V, rfl⟩ : ∃ V, V = wr := ⟨_, rfl⟩
    clear HR hmk
    by_cases hlt : k < m.length
    · obtain ⟨b, o, c', p2, c2, he, hc, hi⟩ := mat_cell HV.out hlt
      simp only [Value.slice.injEq, true_and] at he
      obtain ⟨rfl, rfl⟩ := he
      obtain ⟨xs, hxs⟩ : ∃ xs, xs = m.getD k [] := ⟨_, rfl⟩
      rw [← hxs] at hc hi
      have hxl : (xs.length : Int) ≤ 1048576 := by
        rw [hxs]; simp only [List.getD, List.getElem?_eq_getElem hlt, Option.getD_some]; exact HN.out _ (List.getElem_mem hlt)
      have hc1 : V.cell? ⟨b, o + k, none⟩ = some (.slice p2 xs.length c2) := by rw [HB.out.cell (p := ⟨b, o + k, none⟩) (lt_of_cell' hc)]; exact hc
      have L1 := lt_of_cell' hc1
      have HC := Lib.hid hc1
      have HIX := Lib.hid (hi.below HB.out)
      have HXS := Lib.hid hxs
      have HLT := Lib.hid hlt
      have kl : (k : Int) < m.length := by omega
      have kg : (0 : Int) ≤ k := by omega
      have hmk := mkAny xs.length (by omega)
      have hc2 : (V.alloc (.cells (madeCells #[.nilIface] xs.length) 20)).cell? ⟨b, o + k, none⟩ = some (.slice p2 xs.length c2) := by
        rw [(show Below V.heap.size V _ from (Below.refl _ _).alloc (Nat.le_refl _) _).cell (p := ⟨b, o + k, none⟩) L1]; exact hc1
      clear hc hi hxs
      go_wp2_with fail
      have HR := Lib.hid (World.rowIs_made V .nilIface xs.length 20)
      go_loopw [39] (fun i W => ∃ j : Nat, j ≤ xs.length ∧ i = .int .i64 j ∧ Hid (Below V.heap.size V W) ∧ Hid (W.rowIs V.heap.size 20 xs.length (fillI xs j)) ∧ V.heap.size < W.heap.size) (fun i _ => xs.length - (intOf i).toNat)
      case atStart => exact ⟨0, Nat.zero_le _, rfl, Lib.hid ((Below.refl _ _).alloc (Nat.le_refl _) _), Lib.hid (HR.out.congr fun i _ => by unfold fillI; rw [if_neg (by omega)]), by simp⟩
      case round =>
        clear HR hmk hc2 hc1
        obtain ⟨j, hj, rfl, HB2, HW2, hz2⟩ := hrel
        have hcW : wr.cell? ⟨b, o + k, none⟩ = some (.slice p2 xs.length c2) := by rw [HB2.out.cell (p := ⟨b, o + k, none⟩) L1]; exact HC.out
        by_cases hjl : j < xs.length
        · obtain ⟨b3, o3, c3, he, hc⟩ := ints_cellG HIX.out hjl
          simp only [Value.slice.injEq, true_and] at he
          obtain ⟨rfl, rfl⟩ := he
          obtain ⟨y, hy⟩ : ∃ y, y = xs.getD j 0 := ⟨_, rfl⟩
          rw [← hy] at hc
          have hc3 : wr.cell? ⟨b3, o3 + j, none⟩ = some (.int .i64 y) := by rw [HB2.out.cell (p := ⟨b3, o3 + j, none⟩) (lt_of_cell' hc)]; exact hc
          have g1 : wr.cell? ⟨V.heap.size, j, none⟩ = some (fillI xs j j) := HW2.out.cell hjl
          have g2 : wr.frozen? ⟨V.heap.size, j, none⟩ = false := HW2.out.frozen j
          have jl : (j : Int) < xs.length := by omega
          have jg : (0 : Int) ≤ j := by omega
          have HYY := Lib.hid hy
          have HJ := Lib.hid hjl
          clear hc hy
          go_wp2_with fail
          go_roundw
          case rel => exact ⟨j + 1, by omega, by go_num, Lib.hid (HB2.out.setCell (Nat.le_refl _) _), Lib.hid ((HW2.out.set j _).congr fun i _ => by
            have hy : y = xs[j]'HJ.out := by rw [HYY.out]; simp [List.getD, HJ.out]
            rw [hy]; exact fillI_step xs j HJ.out i), by simpa using hz2⟩
          case measure => simp [intOf]; omega
        · have hjn : j = xs.length := by omega
          have HWB := Lib.hid (row_on HW.out HB2.out hz)
          have g1 : wr.cell? ⟨w.heap.size, k, none⟩ = some (rowF m bs k k) := HWB.out.cell HLT.out
          have g2 : wr.frozen? ⟨w.heap.size, k, none⟩ = false := HWB.out.frozen k
          have HJ := Lib.hid hjn
          clear hcW hjn
          go_wp2_with fail
          go_roundw
          case rel =>
            refine ⟨k + 1, upd bs k V.heap.size, HLT.out, by go_num, Lib.hid ((HB.out.trans (HB2.out.mono HB.out.size)).setCell (Nat.le_refl _) _), Lib.hid ((HWB.out.set k _).congr fun i _ => ?_), Lib.hid ?_, by simp; omega⟩
            · unfold rowF rowV
              by_cases e : i = k
              · subst e; rw [if_pos rfl, if_pos (by omega), upd_self, ← HXS.out]
              · rw [if_neg e]
                by_cases h2 : i < k
                · rw [if_pos h2, if_pos (by omega), upd_ne bs e]
                · rw [if_neg h2, if_neg (by omega)]
            · intro r hr
              have hsz : (wr.setCell ⟨w.heap.size, k, none⟩ (.iface 61 (.slice (some ⟨V.heap.size, 0, none⟩) xs.length xs.length))).heap.size = wr.heap.size := by simp
              by_cases e : r = k
              · subst e
                rw [upd_self, ← HXS.out]
                refine ⟨hz, by rw [hsz]; exact hz2, row_far ?_ (by omega)⟩
                have h := HW2.out
                rw [HJ.out] at h
                exact h
              · rw [upd_ne bs e]
                obtain ⟨i1, i2, i3⟩ := HI.out r (by omega)
                exact ⟨i1, by rw [hsz]; omega, row_far (row_on i3 HB2.out i2) (by omega)⟩
          case measure => simp [intOf]; omega
    · have hkn : k = m.length := by omega
      have HM : Hid (MatAt V w.heap.size bs m) := Lib.hid ⟨fun r hr => by
          rw [HW.out.cell hr]; unfold rowF; rw [if_pos (by omega)],
        fun r hr j hj => by
          obtain ⟨_, _, i3⟩ := HI.out r (by omega)
          rw [i3.cell hj]; unfold fillI; rw [if_pos hj]; rfl,
        fun r hr => by
          simp only [List.getD, List.getElem?_eq_getElem hr, Option.getD_some]; exact HN.out _ (List.getElem_mem hr)⟩
      have hmk := mkAny ps.length (by omega)
      clear HW HI hkn
      have HXV := Lib.hid (HX.out.below HB.out)
      have HYV : Hid (Bools V (.slice q2 ks.length d2) ks) := Lib.hid (HY.out.below HB.out)
      go_wp2_with fail
      have HR := Lib.hid (World.rowIs_made V .nilIface ps.length 20)
      go_loopw [65] (fun i wr => ∃ j : Nat, j ≤ ps.length ∧ i = .int .i64 j ∧ Hid (Below V.heap.size V wr) ∧ Hid (wr.rowIs V.heap.size 20 ps.length (pathF key ks ps j))) (fun i _ => ps.length - (intOf i).toNat)
      case atStart => exact ⟨0, Nat.zero_le _, rfl, Lib.hid ((Below.refl _ _).alloc (Nat.le_refl _) _), Lib.hid (HR.out.congr fun i _ => by unfold pathF; rw [if_neg (by omega)])⟩
      case round =>
        clear HR hmk
        obtain ⟨j, hj, rfl, HB2, HW2⟩ := hrel
        by_cases hjl : j < ps.length
        · obtain ⟨b, o, c', he, hc⟩ := ints_cellG HXV.out hjl
          simp only [Value.slice.injEq, true_and] at he
          obtain ⟨rfl, rfl⟩ := he
          have hjk : j < ks.length := by have := HL.out; omega
          obtain ⟨b2, o2, c2, he, hd⟩ := bools_cell HYV.out hjk
          simp only [Value.slice.injEq, true_and] at he
          obtain ⟨rfl, rfl⟩ := he
          obtain ⟨y, hy⟩ : ∃ y, y = ps.getD j 0 := ⟨_, rfl⟩
          obtain ⟨t, ht⟩ : ∃ t, t = ks.getD j false := ⟨_, rfl⟩
          rw [← hy] at hc
          rw [← ht] at hd
          have hc3 : wr.cell? ⟨b, o + j, none⟩ = some (.int .i64 y) := by rw [HB2.out.cell (p := ⟨b, o + j, none⟩) (lt_of_cell' hc)]; exact hc
          have hd3 : wr.cell? ⟨b2, o2 + j, none⟩ = some (.bool t) := by rw [HB2.out.cell (p := ⟨b2, o2 + j, none⟩) (lt_of_cell' hd)]; exact hd
          have g1 : wr.cell? ⟨V.heap.size, j, none⟩ = some (pathF key ks ps j j) := HW2.out.cell hjl
          have g2 : wr.frozen? ⟨V.heap.size, j, none⟩ = false := HW2.out.frozen j
          have jl : (j : Int) < ps.length := by omega
          have jk : (j : Int) < ks.length := by omega
          have jg : (0 : Int) ≤ j := by omega
          have HT := Lib.hid (pathF_step key ks ps j)
          rw [← hy, ← ht] at HT
          have HJ := Lib.hid hjl
          clear hc hd hy ht
          cases t
          · go_wp2_with fail
            go_roundw
            case rel => exact ⟨j + 1, HJ.out, by go_num, Lib.hid (HB2.out.setCell (Nat.le_refl _) _), Lib.hid ((HW2.out.set j _).congr fun i _ => HT.out i)⟩
            case measure => simp [intOf]; omega
          · go_wp2_with fail
            go_roundw
            case rel => exact ⟨j + 1, HJ.out, by go_num, Lib.hid (HB2.out.setCell (Nat.le_refl _) _), Lib.hid ((HW2.out.set j _).congr fun i _ => HT.out i)⟩
            case measure => simp [intOf]; omega
        · have hjn : j = ps.length := by omega
          have HMW := Lib.hid (MatAt.on HM.out HB2.out)
          have HP : Hid (∀ i, (h : i < (ks.zip ps).length) → wr.cell? ⟨V.heap.size, i, none⟩ = some (stepV key (ks.zip ps)[i])) := Lib.hid (by
            intro i h
            have h2 : i < ps.length := by rw [List.length_zip] at h; omega
            have h3 : i < ks.length := by rw [List.length_zip] at h; omega
            rw [HW2.out.cell h2]
            unfold pathF
            rw [if_pos (by omega), List.getElem_zip]
            simp [List.getD, h2, h3])
          have hzl : (ks.zip ps).length = ps.length := by rw [List.length_zip, HL.out, Nat.min_self]
          have HC := Lib.hid (getpath_mat m w.heap.size V.heap.size bs key (ks.zip ps) wr HMW.out hm HVV.out HP.out HSS.out (by rw [hzl]; exact hn))
          rw [hzl] at HC
          have HBW := Lib.hid (HB.out.trans (HB2.out.mono HB.out.size))
          clear HW2 HB2 HMW HP hjn hzl
          go_wp2_with fail
          refine HC.out.mono ?_
          rintro e w2 ⟨hg, hb⟩
          have HBX := Lib.hid (HBW.out.trans (hb.mono HBW.out.size))
          clear hb HC
          rcases hg with ⟨hg, t, a, ht, rfl⟩ | ⟨hg, rfl⟩
          · rcases ht with rfl | rfl
            · go_wp2_with fail
              go_ret2
              rw [hg]
              exact ⟨rfl, HBX.out⟩
            · go_wp2_with fail
              go_ret2
              rw [hg]
              exact ⟨rfl, HBX.out⟩
          · cases hq : pathG m (ks.zip ps) with
            | err => rw [hq] at hg; exact hg.elim
            | null =>
              rw [show gV m w.heap.size bs .null = .nilIface from rfl]
              go_wp2_with fail
              go_ret2
              rw [hq]
              exact ⟨rfl, HBX.out⟩
            | int n =>
              rw [show gV m w.heap.size bs (.int n) = .iface 3 (.int .i64 n) from rfl]
              go_wp2_with fail
              go_ret2
              rw [hq]
              exact ⟨rfl, HBX.out⟩
            | mat =>
              rw [show gV m w.heap.size bs .mat = .iface 61 (.slice (some ⟨w.heap.size, 0, none⟩) m.length m.length) from rfl]
              go_wp2_with fail
              go_ret2
              rw [hq]
              exact ⟨rfl, HBX.out⟩
            | row r =>
              rw [show gV m w.heap.size bs (.row r) = .iface 61 (.slice (some ⟨bs r, 0, none⟩) (m.getD r []).length (m.getD r []).length) from rfl]
              go_wp2_with fail
              go_ret2
              rw [hq]
              exact ⟨rfl, HBX.out⟩
end Go.Proofs.YtfgepnbfideliaaGreatDoor
