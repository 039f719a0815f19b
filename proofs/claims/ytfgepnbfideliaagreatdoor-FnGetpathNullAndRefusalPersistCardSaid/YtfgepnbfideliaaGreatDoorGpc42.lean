/- funcGetpath on an array of arrays of ints: the loop. -/
import Derived.Test.YtfgepnbfideliaaGreatDoorGpb42
namespace Go.Proofs.YtfgepnbfideliaaGreatDoor
open Go.RowKit
set_option maxRecDepth 100000
set_option maxHeartbeats 8000000
theorem ta_gV (m : List (List Int)) (B : Nat) (bs : Nat → Nat) (g : G) (W : World) : (Instr.typeAssert (gV m B bs g) 20 66 true).run Tryz.prog W = .ok (.tuple #[.nilIface, .bool false]) W := by
  cases g with
  | null => exact ta_nil_err W
  | mat => exact ta_arr_err W _
  | row r => exact ta_arr_err W _
  | int n => exact ta_int_err W _
  | err => exact ta_nil_err W
theorem step_ok (m : List (List Int)) (g : G) (s : Bool × Int) (hg : g.ok m) (hv : ∀ r, r < m.length → ∀ j, j < (m.getD r []).length → -9223372036854775808 ≤ (m.getD r []).getD j 0 ∧ (m.getD r []).getD j 0 ≤ 9223372036854775807) (h : stepG m g s ≠ .err) : (stepG m g s).ok m := by
  obtain ⟨kb, i⟩ := s
  cases g with
  | null => trivial
  | err => exact hg.elim
  | int n => exact absurd rfl h
  | mat =>
    cases kb with
    | true => exact absurd rfl h
    | false =>
      show G.ok m (match pickI m.length i with | some r => .row r | none => .null)
      cases hp : pickI m.length i with
      | none => trivial
      | some r => exact pick_bounds hp
  | row r =>
    cases kb with
    | true => exact absurd rfl h
    | false =>
      show G.ok m (match pickI (m.getD r []).length i with | some j => .int ((m.getD r []).getD j 0) | none => .null)
      cases hp : pickI (m.getD r []).length i with
      | none => trivial
      | some j => exact hv r hg j (pick_bounds hp)
theorem step_err_mat {m : List (List Int)} {s : Bool × Int} (h : stepG m .mat s = .err) : s.1 = true := by
  obtain ⟨kb, i⟩ := s
  cases kb with
  | true => rfl
  | false =>
    exfalso
    have h : (match pickI m.length i with | some r => G.row r | none => .null) = .err := h
    cases hp : pickI m.length i <;> rw [hp] at h <;> cases h
theorem step_err_row {m : List (List Int)} {r : Nat} {s : Bool × Int} (h : stepG m (.row r) s = .err) : s.1 = true := by
  obtain ⟨kb, i⟩ := s
  cases kb with
  | true => rfl
  | false =>
    exfalso
    have h : (match pickI (m.getD r []).length i with | some j => G.int ((m.getD r []).getD j 0) | none => .null) = .err := h
    cases hp : pickI (m.getD r []).length i <;> rw [hp] at h <;> cases h
theorem getpath_mat (m : List (List Int)) (B P : Nat) (bs : Nat → Nat) (key : ByteArray) (p : List (Bool × Int)) (w : World) (hM : MatAt w B bs m) (hm : (m.length : Int) ≤ 1048576)
    (hv : ∀ r, r < m.length → ∀ j, j < (m.getD r []).length → -9223372036854775808 ≤ (m.getD r []).getD j 0 ∧ (m.getD r []).getD j 0 ≤ 9223372036854775807)
    (hp : ∀ j, (h : j < p.length) → w.cell? ⟨P, j, none⟩ = some (stepV key p[j])) (hs : ∀ s ∈ p, -9223372036854775808 ≤ s.2 ∧ s.2 ≤ 9223372036854775807) (hn : (p.length : Int) ≤ 4194304) :
    Calls Tryz.prog 35 #[gV m B bs .mat, .iface 61 (.slice (some ⟨P, 0, none⟩) p.length p.length)] w (GotG m B bs (pathG m p) w) := by
  have HM := Lib.hid hM
  have HV := Lib.hid hv
  have HP := Lib.hid hp
  have HS := Lib.hid hs
  have HMM := Lib.hid hm
  clear hM hv hp hs hm
  rw [show gV m B bs .mat = .iface 61 (.slice (some ⟨B, 0, none⟩) m.length m.length) from rfl]
  go_enter Tryz.func35, Tryz.ntmps35
  go_wp2_with fail
  go_loopw [0, 27] (fun v i wr => ∃ (k : Nat) (g : G), k ≤ p.length ∧ i = .int .i64 k ∧ v = gV m B bs g ∧ Hid (g = pathG m (p.take k)) ∧ Hid (g.ok m) ∧ wr = w) (fun _ i _ => p.length - (intOf i).toNat)
  case atStart => exact ⟨0, .mat, Nat.zero_le _, rfl, rfl, Lib.hid rfl, Lib.hid trivial, rfl⟩
  case round =>
    obtain ⟨k, g, hk, rfl, rfl, HG, HO, hw⟩ := hrel
    rw [hw]
    clear hw
    by_cases hlt : k < p.length
    · obtain ⟨s, hs⟩ : ∃ s, s = p[k]'hlt := ⟨_, rfl⟩
      have hc : w.cell? ⟨P, k, none⟩ = some (stepV key s) := by rw [hs]; exact HP.out k hlt
      have HL := Lib.hid hlt
      have HE := Lib.hid (show pathG m (p.take (k + 1)) = stepG m g s by rw [hs, HG.out]; exact path_snoc m p k hlt)
      have hsk : -9223372036854775808 ≤ s.2 ∧ s.2 ≤ 9223372036854775807 := by rw [hs]; exact HS.out _ (List.getElem_mem hlt)
      clear hs
      have kl : (k : Int) < p.length := by omega
      have kg : (0 : Int) ≤ k := by omega
      by_cases hne : stepG m g s = .err
      · have HR := Lib.hid (path_err_on m p (k + 1) (HE.out.trans hne))
        cases g with
        | err => exact HO.out.elim
        | null => cases hne
        | int n =>
          rw [show gV m B bs (.int n) = .iface 3 (.int .i64 n) from rfl]
          generalize stepV key s = x at *
          clear hsk hne HE HG HO
          go_wp2_with fail
          go_ret
          exact ⟨Or.inl ⟨HR.out, _, _, Or.inr rfl, rfl⟩, (Below.refl _ _).alloc (Nat.le_refl _) _⟩
        | mat =>
          have hx : stepV key s = .iface 9 (.string key) := by
            unfold stepV; rw [if_pos (step_err_mat hne)]
          rw [hx] at hc
          have HC := Lib.hid (index2_keyArr .nilIface (some ⟨B, 0, none⟩) m.length m.length key w)
          rw [show gV m B bs (.mat) = .iface 61 (.slice (some ⟨B, 0, none⟩) m.length m.length) from rfl]
          clear hsk hne hx HE HG HO
          go_wp2_with fail
          refine HC.out.mono ?_
          rintro e w1 ⟨⟨a, rfl⟩, hb⟩
          have HB := Lib.hid hb
          clear hb HC
          go_wp2_with fail
          go_ret
          exact ⟨Or.inl ⟨HR.out, _, _, Or.inl rfl, rfl⟩, HB.out.alloc HB.out.size _⟩
        | row r =>
          have hx : stepV key s = .iface 9 (.string key) := by
            unfold stepV; rw [if_pos (step_err_row hne)]
          rw [hx] at hc
          have HC := Lib.hid (index2_keyArr .nilIface (some ⟨bs r, 0, none⟩) (m.getD r []).length (m.getD r []).length key w)
          rw [show gV m B bs (.row r) = .iface 61 (.slice (some ⟨bs r, 0, none⟩) (m.getD r []).length (m.getD r []).length) from rfl]
          clear hsk hne hx HE HG HO
          go_wp2_with fail
          refine HC.out.mono ?_
          rintro e w1 ⟨⟨a, rfl⟩, hb⟩
          have HB := Lib.hid hb
          clear hb HC
          go_wp2_with fail
          go_ret
          exact ⟨Or.inl ⟨HR.out, _, _, Or.inl rfl, rfl⟩, HB.out.alloc HB.out.size _⟩
      · have HN := Lib.hid (step_ok m g s HO.out HV.out hne)
        have hnn : ∀ n, g ≠ .int n := by rintro n rfl; exact hne rfl
        have HC := Lib.hid (step_go m B bs key .nilIface g s w HM.out HMM.out hsk HO.out hnn hne)
        have hta := ta_gV m B bs (stepG m g s) w
        generalize stepV key s = x at *
        generalize stepG m g s = g2 at *
        clear hsk
        cases g with
        | err => exact HO.out.elim
        | int n => exact absurd rfl (hnn n)
        | null =>
          rw [show gV m B bs (.null) = .nilIface from rfl] at HC ⊢
          clear HG HO hnn hne
          go_wp2_with fail
          refine HC.out.mono ?_
          rintro e w1 ⟨rfl, rfl⟩
          clear HC
          go_wp2_with fail
          go_roundw
          case rel => exact ⟨k + 1, g2, HL.out, by go_num, rfl, Lib.hid HE.out.symm, HN, by first | rfl | trivial⟩
          case measure => simp [intOf]; omega
        | mat =>
          rw [show gV m B bs (.mat) = .iface 61 (.slice (some ⟨B, 0, none⟩) m.length m.length) from rfl] at HC ⊢
          clear HG HO hnn hne
          go_wp2_with fail
          refine HC.out.mono ?_
          rintro e w1 ⟨rfl, rfl⟩
          clear HC
          go_wp2_with fail
          go_roundw
          case rel => exact ⟨k + 1, g2, HL.out, by go_num, rfl, Lib.hid HE.out.symm, HN, by first | rfl | trivial⟩
          case measure => simp [intOf]; omega
        | row r =>
          rw [show gV m B bs (.row r) = .iface 61 (.slice (some ⟨bs r, 0, none⟩) (m.getD r []).length (m.getD r []).length) from rfl] at HC ⊢
          clear HG HO hnn hne
          go_wp2_with fail
          refine HC.out.mono ?_
          rintro e w1 ⟨rfl, rfl⟩
          clear HC
          go_wp2_with fail
          go_roundw
          case rel => exact ⟨k + 1, g2, HL.out, by go_num, rfl, Lib.hid HE.out.symm, HN, by first | rfl | trivial⟩
          case measure => simp [intOf]; omega
    · have hkn : k = p.length := by omega
      have HE := Lib.hid (show g = pathG m p by rw [HG.out, hkn, List.take_length])
      clear HG hkn
      have HV := Lib.hid (show gV m B bs g = gV m B bs (pathG m p) by rw [HE.out])
      have HK := Lib.hid (show G.ok m (pathG m p) by rw [← HE.out]; exact HO.out)
      generalize gV m B bs g = v at *
      go_wp2_with fail
      go_ret
      exact ⟨Or.inr ⟨HK.out, by rw [← HV.out]; rfl⟩, Below.refl _ _⟩
end Go.Proofs.YtfgepnbfideliaaGreatDoor
