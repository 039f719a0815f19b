/- FnIndex2ObjectLookup: it returns true. -/
import Derived.Test.YtfgepnbfideliaaGreatDoorIo16
import Derived.Deep.DeepCutAuto
import Derived.Deep.LoopGhost
namespace Go.Proofs.YtfgepnbfideliaaGreatDoor
open Go.RowKit Go.Maps
set_option maxRecDepth 100000
set_option maxHeartbeats 16000000
def BytesIO (ks : List ByteArray) (m : Nat) (k : ByteArray) (w : World) (e : Ending) (w' : World) : Prop :=
  (∃ b, e = .returned (.bool b) ∧ (b = true → ks.length ≤ 1048576 ∧ m ≤ 1048576 ∧ k.size ≤ 1048576 ∧ ∀ i, i < ks.length → (ks.getD i ByteArray.empty).size ≤ 1048576)) ∧ w = w'
theorem bytesIO (ks : List ByteArray) (p q : Option Addr) (c m d : Nat) (k : ByteArray) (w : World) (hv : Strs w (.slice p ks.length c) ks) (hl : (ks.length : Int) ≤ 9223372036854775807) (hm : (m : Int) ≤ 9223372036854775807) (hk : (k.size : Int) ≤ 9223372036854775807) (hb : ∀ x ∈ ks, (x.size : Int) ≤ 9223372036854775807) :
    Calls Tryz.prog 21 #[.slice p ks.length c, .slice q m d, .string k] w (BytesIO ks m k w) := by
  have HV := Lib.hid hv
  have HBD := Lib.hid hb
  clear hv hb
  by_cases h1 : ks.length ≤ 1048576
  case neg =>
    have h1' : ¬ (ks.length : Int) ≤ 1048576 := by omega
    go_enter Tryz.func21, Tryz.ntmps21
    go_wp2
    go_ret
    exact ⟨⟨false, rfl, fun h => absurd h (by decide)⟩, rfl⟩
  case pos =>
    go_enter Tryz.func21, Tryz.ntmps21
    go_wp2
    go_loop [7, 8] (fun vt vj => ∃ (j : Nat) (t : Int), vt = .int .i64 t ∧ vj = .int .i64 j ∧ j ≤ ks.length ∧ 0 ≤ t ∧ t ≤ 1048576 ∧ Hid (∀ i, i < j → (ks.getD i ByteArray.empty).size ≤ 1048576)) (fun _ j => ks.length - (intOf j).toNat)
    case atStart => exact ⟨0, _, rfl, rfl, Nat.zero_le _, by omega, by omega, Lib.hid (fun i h => by omega)⟩
    case round =>
      obtain ⟨j, t, rfl, rfl, hj, t0, t1, HS⟩ := hrel
      by_cases hlt : j < ks.length
      · obtain ⟨b, o, c', he, hc⟩ := strs_cell HV.out hlt
        simp only [Value.slice.injEq, true_and] at he
        obtain ⟨rfl, rfl⟩ := he
        obtain ⟨s, hs⟩ : ∃ s, s = ks.getD j ByteArray.empty := ⟨_, rfl⟩
        rw [← hs] at hc
        have hsb : (s.size : Int) ≤ 9223372036854775807 := by
          rw [hs]
          exact HBD.out _ (by simp [List.getD, hlt])
        have HSS := Lib.hid hs
        have HLT := Lib.hid hlt
        have jg : (0 : Int) ≤ j := by omega
        clear hs
        by_cases h2 : (s.size : Int) ≤ 1048576
        · by_cases h3 : t + s.size ≤ 1048576
          · go_wp2
            go_round
            case rel => exact ⟨j + 1, _, rfl, by go_num, HLT.out, by omega, by omega, Lib.hid (fun i hi => by
              by_cases e : i = j
              · rw [e, ← HSS.out]; omega
              · exact HS.out i (by omega))⟩
            case measure => simp [intOf]; omega
          · go_wp2
            go_ret
            exact ⟨⟨false, rfl, fun h => absurd h (by decide)⟩, rfl⟩
        · go_wp2
          go_ret
          exact ⟨⟨false, rfl, fun h => absurd h (by decide)⟩, rfl⟩
      · have hje : j = ks.length := by omega
        have HJ := Lib.hid hje
        clear hje
        go_wp2
        all_goals
          go_ret
          first
            | exact ⟨⟨false, rfl, fun h => absurd h (by decide)⟩, rfl⟩
            | exact ⟨⟨true, rfl, fun _ => ⟨h1, by omega, by omega, by rw [← HJ.out]; exact HS.out⟩⟩, rfl⟩
theorem mkStr (n : Nat) (h : n ≤ 1099511627776) (w : World) : (Instr.makeSlice 44 (.int .i64 (n : Int)) (.int .i64 (n : Int))).run Tryz.prog w = .ok (.slice (some ⟨w.heap.size, 0, none⟩) n n) (w.alloc (.cells (madeCells #[.string ⟨#[]⟩] n) 9)) :=
  run_make_row' 44 9 (.string ⟨#[]⟩) 16 Tryz.underlying44 (by kernel_rfl) rfl .i64 .i64 n (by omega) (by omega) w
@[go_sem] theorem nil_strs_ne (w : World) (a : Option Addr) (n c : Nat) : (binOp .neq 44 (.slice a n c) (.slice none 0 0)).run Tryz.prog w = .ok (.bool (!a.isNone)) w := run_neq_slice_nil w 44 9 a n c Tryz.underlying44
@[go_sem] theorem nil_ints_ne2 (w : World) (a : Option Addr) (n c : Nat) : (binOp .neq 32 (.slice a n c) (.slice none 0 0)).run Tryz.prog w = .ok (.bool (!a.isNone)) w := run_neq_slice_nil w 32 3 a n c Tryz.underlying32
def fillS (xs : List ByteArray) (k : Nat) (i : Nat) : Value := if i < k then .string (xs.getD i ByteArray.empty) else .string ⟨#[]⟩
theorem fillS_step (xs : List ByteArray) (k : Nat) : ∀ i, (if i = k then Value.string (xs.getD k ByteArray.empty) else fillS xs k i) = fillS xs (k + 1) i := by
  intro i
  unfold fillS
  by_cases h : i = k
  · subst h; rw [if_pos rfl, if_pos (by omega)]
  · rw [if_neg h]
    by_cases h2 : i < k
    · rw [if_pos h2, if_pos (by omega)]
    · rw [if_neg h2, if_neg (by omega)]
theorem fillN_step' (xs : List Int) (k : Nat) : ∀ i, (if i = k then Value.int .i64 (xs.getD k 0) else fillN xs k i) = fillN xs (k + 1) i := by
  intro i
  unfold fillN
  by_cases h : i = k
  · subst h; rw [if_pos rfl, if_pos (by omega)]
  · rw [if_neg h]
    by_cases h2 : i < k
    · rw [if_pos h2, if_pos (by omega)]
    · rw [if_neg h2, if_neg (by omega)]
theorem law_IO (w : World) (ks : List ByteArray) (p : Option Addr) (c : Nat) (hx : Strs w (.slice p ks.length c) ks) (hl : (ks.length : Int) ≤ 9223372036854775807) (hbd : ∀ x ∈ ks, (x.size : Int) ≤ 9223372036854775807)
    (vs : List Int) (q : Option Addr) (d : Nat) (hy : Ints w (.slice q vs.length d) vs) (hm : (vs.length : Int) ≤ 9223372036854775807) (_ : ∀ x ∈ vs, -9223372036854775808 ≤ x ∧ x ≤ 9223372036854775807)
    (k : ByteArray) (hk : (k.size : Int) ≤ 9223372036854775807) :
    Calls Tryz.prog 6 #[.slice p ks.length c, .slice q vs.length d, .string k] w fun e w' => e = .returned (.bool true) ∧ Below w.heap.size w w' := by
  have H := Lib.hid (bytesIO ks p q c vs.length d k w hx hl hm hk hbd)
  have HX := Lib.hid hx
  have HY := Lib.hid hy
  clear hbd hx hy
  go_enter Tryz.func6, Tryz.ntmps6
  go_wp2_with fail
  refine H.out.mono ?_
  rintro e w' ⟨⟨b, rfl, hb⟩, rfl⟩
  cases b with
  | false =>
    clear hb
    go_wp2_with fail
    go_ret
    exact ⟨rfl, Below.refl _ _⟩
  | true =>
    obtain ⟨b1, b2, b3, b4⟩ := hb rfl
    have HB4 := Lib.hid b4
    clear hb b4 H
    go_wp2_with fail
    go_loop [7, 8] (fun vt vj => ∃ (j : Nat) (t : Int), vt = .int .i64 t ∧ vj = .int .i64 j ∧ j ≤ ks.length ∧ 0 ≤ t ∧ t ≤ 26214400 ∧ 16 * (ks.length : Int) ≤ t ∧ 8 * (vs.length : Int) ≤ t) (fun _ j => ks.length - (intOf j).toNat)
    case atStart => exact ⟨0, _, rfl, rfl, Nat.zero_le _, by omega, by omega, by omega, by omega⟩
    case round =>
      obtain ⟨j, t, rfl, rfl, hj, t0, t1, t2, t3⟩ := hrel
      by_cases hlt : j < ks.length
      · obtain ⟨b, o, c', he, hc⟩ := strs_cell HX.out hlt
        simp only [Value.slice.injEq, true_and] at he
        obtain ⟨rfl, rfl⟩ := he
        obtain ⟨s, hs⟩ : ∃ s, s = ks.getD j ByteArray.empty := ⟨_, rfl⟩
        rw [← hs] at hc
        have hsb : (s.size : Int) ≤ 1048576 := by have := HB4.out j hlt; rw [← hs] at this; omega
        have HLT := Lib.hid hlt
        have jg : (0 : Int) ≤ j := by omega
        clear hs
        by_cases h3 : t + s.size ≤ 1048576
        · go_wp2
          go_round
          case rel => exact ⟨j + 1, _, rfl, by go_num, HLT.out, by omega, by omega, by omega, by omega⟩
          case measure => simp [intOf]; omega
        · go_wp2
          go_ret
          exact ⟨rfl, Below.refl _ _⟩
      · by_cases h3 : t ≤ 1048576
        case neg =>
          go_wp2
          go_ret
          exact ⟨rfl, Below.refl _ _⟩
        case pos =>
          by_cases he : ks.length = vs.length
          case neg =>
            have te : ((ks.length : Int) != vs.length) = true := by simp; omega
            clear he
            go_wp2
            go_ret
            exact ⟨rfl, Below.refl _ _⟩
          case pos =>
            have te : ((ks.length : Int) != vs.length) = false := by simp; omega
            have HE := Lib.hid he
            have n1 : (ks.length : Int) ≤ 1048576 := by omega
            have n2 : (vs.length : Int) ≤ 1048576 := by omega
            clear he
            go_upto_if 55 with fail
            go_cut [0, 9, 10] (fun s0 _ _ wx => ∃ p c, s0 = .slice p ks.length c ∧ Hid (Strs wx s0 ks) ∧ Hid (Below w.heap.size w wx))
            case first =>
              rcases HX.out with ⟨h1, h2⟩ | ⟨a, cap, h1, h2⟩ | ⟨b, o, cap, h1, h2⟩
              · simp only [Value.slice.injEq] at h1
                obtain ⟨rfl, _, rfl⟩ := h1
                subst h2
                go_wp2_with fail
                go_meet
                exact ⟨_, _, rfl, Lib.hid (Or.inl ⟨rfl, rfl⟩), Lib.hid (Below.refl _ _)⟩
              · simp only [Value.slice.injEq] at h1
                obtain ⟨rfl, hz, rfl⟩ := h1
                have hmk := mkStr 0 (by omega)
                simp only [Int.natCast_zero] at hmk
                subst h2
                go_wp2_with fail
                refine wp_loop_rounds 1 ?_
                rw [rounds_succ]
                go_wp2_with fail
                go_meet
                exact ⟨_, _, rfl, Lib.hid (Or.inr (Or.inl ⟨_, _, rfl, rfl⟩)), Lib.hid ((Below.refl _ _).alloc (Nat.le_refl _) _)⟩
              · simp only [Value.slice.injEq, true_and] at h1
                obtain ⟨rfl, rfl⟩ := h1
                have HC := Lib.hid h2
                have hmk := mkStr ks.length (by omega)
                clear h2
                go_wp2_with fail
                have HR := Lib.hid (World.rowIs_made w (.string ⟨#[]⟩) ks.length 9)
                go_loopw [10] (fun i wr => ∃ k : Nat, k ≤ ks.length ∧ i = .int .i64 k ∧ Hid (Below w.heap.size w wr) ∧ Hid (wr.rowIs w.heap.size 9 ks.length (fillS ks k))) (fun i _ => ks.length - (intOf i).toNat)
                case atStart => exact ⟨0, Nat.zero_le _, rfl, Lib.hid ((Below.refl _ _).alloc (Nat.le_refl _) _), Lib.hid (HR.out.congr fun i _ => by unfold fillS; rw [if_neg (by omega)])⟩
                case round =>
                  obtain ⟨k2, hk2, rfl, HB, HW⟩ := hrel
                  clear HR hmk
                  by_cases hlt2 : k2 < ks.length
                  · obtain ⟨s, hs⟩ : ∃ s, s = ks.getD k2 ByteArray.empty := ⟨_, rfl⟩
                    have hcell : wr.cell? ⟨b, o + k2, none⟩ = some (.string s) := by
                      have h := HC.out k2 hlt2
                      rw [hs, (HB.out.cell (p := ⟨b, o + k2, none⟩) (lt_of_cell' h)), h]; simp [List.getD, hlt2]
                    have h1 : wr.cell? ⟨w.heap.size, k2, none⟩ = some (fillS ks k2 k2) := HW.out.cell hlt2
                    have h2 : wr.frozen? ⟨w.heap.size, k2, none⟩ = false := HW.out.frozen k2
                    have kg : (0 : Int) ≤ k2 := by omega
                    have HSS := Lib.hid hs
                    clear hs
                    go_wp2
                    go_roundw
                    case rel => exact ⟨k2 + 1, by omega, by go_num, Lib.hid (HB.out.setCell (Nat.le_refl _) _), Lib.hid ((HW.out.set k2 _).congr fun i _ => by rw [HSS.out]; exact fillS_step ks k2 i)⟩
                    case measure => simp [intOf]; omega
                  · have hke : k2 = ks.length := by omega
                    clear hke
                    go_wp2_with fail
                    go_meet
                    exact ⟨_, _, rfl, Lib.hid (Or.inr (Or.inr ⟨w.heap.size, 0, ks.length, rfl, fun i hi => by
                      rw [Nat.zero_add, HW.out.cell hi]; unfold fillS; rw [if_pos (by omega)]; simp [List.getD, hi]⟩)), HB⟩
            case rest =>
              clear HX
              obtain ⟨p1, c1, rfl, HX1, HB1⟩ := hcut
              have HY1 := Lib.hid (HY.out.below HB1.out)
              clear HY
              go_upto_if 74 with fail
              go_cut [1, 11, 12] (fun s1 _ _ wx => ∃ q d, s1 = .slice q vs.length d ∧ Hid (Ints wx s1 vs) ∧ Hid (Below wc.heap.size wc wx))
              case first =>
                rcases HY1.out with ⟨h1, h2⟩ | ⟨a, cap, h1, h2⟩ | ⟨b, o, cap, h1, h2⟩
                · simp only [Value.slice.injEq] at h1
                  obtain ⟨rfl, _, rfl⟩ := h1
                  subst h2
                  go_wp2_with fail
                  go_meet
                  exact ⟨_, _, rfl, Lib.hid (Or.inl ⟨rfl, rfl⟩), Lib.hid (Below.refl _ _)⟩
                · simp only [Value.slice.injEq] at h1
                  obtain ⟨rfl, hz, rfl⟩ := h1
                  have hmk := mkInt 0 (by omega)
                  simp only [Int.natCast_zero] at hmk
                  subst h2
                  go_wp2_with fail
                  refine wp_loop_rounds 1 ?_
                  rw [rounds_succ]
                  go_wp2_with fail
                  go_meet
                  exact ⟨_, _, rfl, Lib.hid (Or.inr (Or.inl ⟨_, _, rfl, rfl⟩)), Lib.hid ((Below.refl _ _).alloc (Nat.le_refl _) _)⟩
                · simp only [Value.slice.injEq, true_and] at h1
                  obtain ⟨rfl, rfl⟩ := h1
                  have HC := Lib.hid h2
                  have hmk := mkInt vs.length (by omega)
                  clear h2
                  go_wp2_with fail
                  have HR := Lib.hid (World.rowIs_made wc (.int .i64 0) vs.length 3)
                  go_loopw [12] (fun i wr => ∃ k : Nat, k ≤ vs.length ∧ i = .int .i64 k ∧ Hid (Below wc.heap.size wc wr) ∧ Hid (wr.rowIs wc.heap.size 3 vs.length (fillN vs k))) (fun i _ => vs.length - (intOf i).toNat)
                  case atStart => exact ⟨0, Nat.zero_le _, rfl, Lib.hid ((Below.refl _ _).alloc (Nat.le_refl _) _), Lib.hid (HR.out.congr fun i _ => by unfold fillN; rw [if_neg (by omega)])⟩
                  case round =>
                    obtain ⟨k2, hk2, rfl, HB, HW⟩ := hrel
                    clear HR hmk
                    by_cases hlt2 : k2 < vs.length
                    · obtain ⟨s, hs⟩ : ∃ s, s = vs.getD k2 0 := ⟨_, rfl⟩
                      have hcell : wr.cell? ⟨b, o + k2, none⟩ = some (.int .i64 s) := by
                        have h := HC.out k2 hlt2
                        rw [hs, (HB.out.cell (p := ⟨b, o + k2, none⟩) (lt_of_cell' h)), h]; simp [List.getD, hlt2]
                      have h1 : wr.cell? ⟨wc.heap.size, k2, none⟩ = some (fillN vs k2 k2) := HW.out.cell hlt2
                      have h2 : wr.frozen? ⟨wc.heap.size, k2, none⟩ = false := HW.out.frozen k2
                      have kg : (0 : Int) ≤ k2 := by omega
                      have HSS := Lib.hid hs
                      clear hs
                      go_wp2
                      go_roundw
                      case rel => exact ⟨k2 + 1, by omega, by go_num, Lib.hid (HB.out.setCell (Nat.le_refl _) _), Lib.hid ((HW.out.set k2 _).congr fun i _ => by rw [HSS.out]; exact fillN_step' vs k2 i)⟩
                      case measure => simp [intOf]; omega
                    · have hke : k2 = vs.length := by omega
                      clear hke
                      go_wp2_with fail
                      go_meet
                      exact ⟨_, _, rfl, Lib.hid (Or.inr (Or.inr ⟨wc.heap.size, 0, vs.length, rfl, fun i hi => by
                        rw [Nat.zero_add, HW.out.cell hi]; unfold fillN; rw [if_pos (by omega)]; simp [List.getD, hi]⟩)), HB⟩
              case rest =>
                obtain ⟨q1, d1, rfl, HY2, HB2⟩ := hcut
                have HX2 := Lib.hid (HX1.out.below HB2.out)
                have HB := Lib.hid (HB1.out.trans (HB2.out.mono HB1.out.size))
                have HZ := Lib.hid (zzObj _ _ ks vs k wc HX2.out HY2.out HE.out n1)
                clear HX1 HY1 HB1 HB2
                go_wp2_with fail
                refine HZ.out.mono ?_
                rintro e w3 ⟨he, hb3⟩
                have HX3 := Lib.hid (HX2.out.below hb3)
                have HY3 := Lib.hid (HY2.out.below hb3)
                have HB3 := Lib.hid (HB.out.trans (hb3.mono HB.out.size))
                have hes : ks.length ≤ vs.length := by have := HE.out; omega
                clear hb3 HZ HX2 HY2 HB
                cases hlo : lastOf ks k ks.length with
                | none =>
                  rw [hlo] at he
                  have he' : e = .returned (.tuple #[.int .i64 0, .bool false, .bool false]) := he
                  subst he'
                  have HLO := Lib.hid hlo
                  clear he hlo
                  go_wp2_with fail
                  go_loop [16] (fun vx => ∃ x : Int, vx = .int .i64 x ∧ -1 ≤ x ∧ x < ks.length ∧ Hid (lastOf ks k (x + 1).toNat = none)) (fun x => (intOf x + 1).toNat)
                  case atStart => exact ⟨(ks.length : Int) - 1, rfl, by omega, by omega, Lib.hid (by rw [show ((ks.length : Int) - 1 + 1).toNat = ks.length by omega]; exact HLO.out)⟩
                  case round =>
                    obtain ⟨x, rfl, x1, x2, HN⟩ := hrel
                    by_cases hx : 0 ≤ x
                    · obtain ⟨m, rfl⟩ : ∃ m : Nat, x = m := ⟨x.toNat, by omega⟩
                      have hmn : m < ks.length := by omega
                      obtain ⟨b, o, c', he, hc⟩ := strs_cell HX3.out hmn
                      simp only [Value.slice.injEq, true_and] at he
                      obtain ⟨rfl, rfl⟩ := he
                      obtain ⟨s, hs⟩ : ∃ s, s = ks.getD m ByteArray.empty := ⟨_, rfl⟩
                      rw [← hs] at hc
                      have hn := HN.out
                      rw [show ((m : Int) + 1).toNat = m + 1 by omega] at hn
                      unfold lastOf at hn
                      rw [← hs] at hn
                      have hne : ¬ s = k := fun e => by rw [if_pos e] at hn; cases hn
                      rw [if_neg hne] at hn
                      have tq : (s.toList == k.toList) = false := by rw [str_eq]; exact decide_eq_false hne
                      have HN2 := Lib.hid hn
                      clear hs hn hne
                      go_wp2
                      go_round
                      case rel => exact ⟨(m : Int) - 1, rfl, by omega, by omega, Lib.hid (by rw [show ((m : Int) - 1 + 1).toNat = m by omega]; exact HN2.out)⟩
                      case measure => simp [intOf]
                    · go_wp2
                      go_ret
                      exact ⟨rfl, HB3.out⟩
                | some t =>
                  rw [hlo] at he
                  obtain ⟨y, hy⟩ : ∃ y, y = vs.getD t 0 := ⟨_, rfl⟩
                  have he' : e = .returned (.tuple #[.int .i64 y, .bool true, .bool false]) := by rw [hy]; exact he
                  subst he'
                  have HLO := Lib.hid hlo
                  have HYV := Lib.hid hy
                  clear he hlo hy
                  go_wp2_with fail
                  go_loop [16] (fun vx => ∃ x : Int, vx = .int .i64 x ∧ -1 ≤ x ∧ x < ks.length ∧ Hid (lastOf ks k (x + 1).toNat = some t)) (fun x => (intOf x + 1).toNat)
                  case atStart => exact ⟨(ks.length : Int) - 1, rfl, by omega, by omega, Lib.hid (by rw [show ((ks.length : Int) - 1 + 1).toNat = ks.length by omega]; exact HLO.out)⟩
                  case round =>
                    obtain ⟨x, rfl, x1, x2, HN⟩ := hrel
                    by_cases hx : 0 ≤ x
                    · obtain ⟨m, rfl⟩ : ∃ m : Nat, x = m := ⟨x.toNat, by omega⟩
                      have hmn : m < ks.length := by omega
                      obtain ⟨b, o, c', he, hc⟩ := strs_cell HX3.out hmn
                      simp only [Value.slice.injEq, true_and] at he
                      obtain ⟨rfl, rfl⟩ := he
                      obtain ⟨s, hs⟩ : ∃ s, s = ks.getD m ByteArray.empty := ⟨_, rfl⟩
                      rw [← hs] at hc
                      have hn := HN.out
                      rw [show ((m : Int) + 1).toNat = m + 1 by omega] at hn
                      unfold lastOf at hn
                      rw [← hs] at hn
                      by_cases hne : s = k
                      · rw [if_pos hne] at hn
                        have hmt : m = t := Option.some.inj hn
                        have tq : (s.toList == k.toList) = true := by rw [str_eq]; exact decide_eq_true hne
                        obtain ⟨b2, o2, c2, he2, hc2⟩ := ints_cell' HY3.out (k := m) (by omega)
                        simp only [Value.slice.injEq, true_and] at he2
                        obtain ⟨rfl, rfl⟩ := he2
                        rw [hmt, ← HYV.out, ← hmt] at hc2
                        have m3 : m < vs.length := by omega
                        have m4 : (m : Int) < vs.length := by omega
                        clear hs hn hne hmt
                        go_wp2
                        go_ret
                        exact ⟨rfl, HB3.out⟩
                      · rw [if_neg hne] at hn
                        have tq : (s.toList == k.toList) = false := by rw [str_eq]; exact decide_eq_false hne
                        have HN2 := Lib.hid hn
                        clear hs hn hne
                        go_wp2
                        go_round
                        case rel => exact ⟨(m : Int) - 1, rfl, by omega, by omega, Lib.hid (by rw [show ((m : Int) - 1 + 1).toNat = m by omega]; exact HN2.out)⟩
                        case measure => simp [intOf]
                    · exfalso
                      have hn := HN.out
                      rw [show (x + 1).toNat = 0 by omega] at hn
                      cases hn
end Go.Proofs.YtfgepnbfideliaaGreatDoor
