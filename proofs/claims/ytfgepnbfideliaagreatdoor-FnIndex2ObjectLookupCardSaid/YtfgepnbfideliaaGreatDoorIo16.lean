/- FnIndex2ObjectLookup: it returns true. -/
import Derived.Test.YtfgepnbfideliaaGreatDoorIdx
import Derived.Test.YtfgepnbfideliaaGreatDoorSMap
import Derived.Test.YtfgepnbfideliaaGreatDoorInts
import Derived.Test.YtfgepnbfideliaaGreatDoorStrs
import Derived.Maps.Own
import Derived.StillTailTactics
namespace Go.Proofs.YtfgepnbfideliaaGreatDoor
open Go.RowKit Go.Maps
set_option maxRecDepth 100000
set_option maxHeartbeats 8000000
theorem zero_any (w : World) : (zeroValue 20).run Tryz.prog w = .ok .nilIface w := by kernel_rfl
/-- funcIndex2 on an object and a string. -/
theorem index2_key (u : Value) (r : Nat) (l : List (ByteArray × Value)) (k : ByteArray) (w : World) (hm : SMap w r l) :
    Calls Tryz.prog 34 #[u, .iface 63 (.map (some r)), .iface 9 (.string k)] w fun e w' => e = .returned ((sGet k l).getD .nilIface) ∧ w = w' := by
  have hlk := hm.lookup (T := 63) (K := 9) (E := 20) (P := Tryz.prog) Tryz.underlying63 Tryz.underlying9 (zero_any w) k
  clear hm
  generalize (sGet k l).getD .nilIface = v at *
  go_enter Tryz.func34, Tryz.ntmps34
  go_wp2
  go_ret
  exact ⟨rfl, rfl⟩
/-- The entries after the first n bindings. -/
def binds (ks : List ByteArray) (vs : List Int) : Nat → List (ByteArray × Value)
  | 0 => []
  | n + 1 => sPut (ks.getD n ByteArray.empty) (.iface 3 (.int .i64 (vs.getD n 0))) (binds ks vs n)
/-- The last binding of k below n. -/
def lastOf (ks : List ByteArray) (k : ByteArray) : Nat → Option Nat
  | 0 => none
  | n + 1 => if ks.getD n ByteArray.empty = k then some n else lastOf ks k n
theorem binds_get (ks : List ByteArray) (vs : List Int) (k : ByteArray) : ∀ n, sGet k (binds ks vs n) = (lastOf ks k n).map fun j => .iface 3 (.int .i64 (vs.getD j 0))
  | 0 => rfl
  | n + 1 => by
    unfold binds lastOf
    rw [sGet_put]
    by_cases h : ks.getD n ByteArray.empty = k
    · rw [if_pos h, if_pos h.symm]; rfl
    · rw [if_neg h, if_neg (fun e => h e.symm), binds_get ks vs k n]
theorem lastOf_lt (ks : List ByteArray) (k : ByteArray) : ∀ n j, lastOf ks k n = some j → j < n
  | 0, _, h => by cases h
  | n + 1, j, h => by
    unfold lastOf at h
    split at h
    · cases h; omega
    · have := lastOf_lt ks k n j h; omega
/-- String equality as the walk tells it. -/
theorem str_eq (a b : ByteArray) : (a.toList == b.toList) = decide (a = b) := by
  by_cases h : a = b
  · subst h; simp
  · rw [decide_eq_false h]
    simp only [beq_eq_false_iff_ne, ne_eq]
    intro e
    rw [Lib.toList_data, Lib.toList_data] at e
    apply h
    cases a; cases b
    simp only [Array.toList_inj] at e
    rw [e]
theorem mkMap (n : Nat) (w : World) : (Instr.makeMap 63 (some (.int .i64 n))).run Tryz.prog w = .ok (.map (some w.heap.size)) (w.alloc (.map #[] 0)) := by
  unfold Instr.makeMap
  simp [Sem.run_bind, run_under Tryz.underlying63, Result.andThen, asInt, asIntOf, Sem.run_pure]
/-- What ZZindex2Object hands out. -/
def ObjFound (ks : List ByteArray) (vs : List Int) (k : ByteArray) (w : World) (e : Ending) (w' : World) : Prop :=
  (match lastOf ks k ks.length with
  | some j => e = .returned (.tuple #[.int .i64 (vs.getD j 0), .bool true, .bool false])
  | none => e = .returned (.tuple #[.int .i64 0, .bool false, .bool false])) ∧ Below w.heap.size w w'
theorem strs_cell {W : World} {p : Option Addr} {c : Nat} {xs : List ByteArray} (h : Strs W (.slice p xs.length c) xs) {k : Nat} (hk : k < xs.length) :
    ∃ b o c', Value.slice p xs.length c = .slice (some ⟨b, o, none⟩) xs.length c' ∧ W.cell? ⟨b, o + k, none⟩ = some (.string (xs.getD k ByteArray.empty)) := by
  rcases h with ⟨h1, h2⟩ | ⟨a, cap, h1, h2⟩ | ⟨b, o, cap, h1, h2⟩
  · rw [h2] at hk; simp at hk
  · rw [h2] at hk; simp at hk
  · exact ⟨b, o, cap, h1, by rw [h2 k hk]; simp [List.getD, hk]⟩
theorem ints_cell' {W : World} {p : Option Addr} {c : Nat} {xs : List Int} (h : Ints W (.slice p xs.length c) xs) {k : Nat} (hk : k < xs.length) :
    ∃ b o c', Value.slice p xs.length c = .slice (some ⟨b, o, none⟩) xs.length c' ∧ W.cell? ⟨b, o + k, none⟩ = some (.int .i64 (xs.getD k 0)) := by
  rcases h with ⟨h1, h2⟩ | ⟨a, cap, h1, h2⟩ | ⟨b, o, cap, h1, h2⟩
  · rw [h2] at hk; simp at hk
  · rw [h2] at hk; simp at hk
  · exact ⟨b, o, cap, h1, by rw [h2 k hk]; simp [List.getD, hk]⟩
theorem zzObj (v x : Value) (ks : List ByteArray) (vs : List Int) (k : ByteArray) (w : World) (hv : Strs w v ks) (hx : Ints w x vs) (hl : ks.length = vs.length) (hn : (ks.length : Int) ≤ 1048576) :
    Calls Tryz.prog 22 #[v, x, .string k] w (ObjFound ks vs k w) := by
  have hv' : ∃ p c, v = .slice p ks.length c := by
    rcases hv with ⟨rfl, rfl⟩ | ⟨a, cap, rfl, rfl⟩ | ⟨b, o, cap, rfl, _⟩
    · exact ⟨_, _, rfl⟩
    · exact ⟨_, _, rfl⟩
    · exact ⟨_, _, rfl⟩
  obtain ⟨p, c, rfl⟩ := hv'
  obtain ⟨q, d, rfl⟩ := hx.slice
  have HV := Lib.hid hv
  have HX := Lib.hid hx
  have HL := Lib.hid hl
  have l1 : ks.length ≤ vs.length := by omega
  have l2 : vs.length ≤ ks.length := by omega
  have hmm := mkMap ks.length
  clear hv hx hl
  go_enter Tryz.func22, Tryz.ntmps22
  go_wp2_with fail
  have HS := Lib.hid (SMap.made w)
  go_loopw [18] (fun i wr => ∃ j : Nat, j ≤ ks.length ∧ i = .int .i64 j ∧ Hid (SMap wr w.heap.size (binds ks vs j)) ∧ Hid (Below w.heap.size w wr)) (fun i _ => ks.length - (intOf i).toNat)
  case atStart => exact ⟨0, Nat.zero_le _, rfl, HS, Lib.hid ((Below.refl _ _).alloc (Nat.le_refl _) _)⟩
  case round =>
    obtain ⟨j, hj, rfl, HM, HB⟩ := hrel
    clear HS
    by_cases hlt : j < ks.length
    · obtain ⟨b, o, c', he, hc⟩ := strs_cell HV.out hlt
      simp only [Value.slice.injEq, true_and] at he
      obtain ⟨rfl, rfl⟩ := he
      obtain ⟨b2, o2, c2, he2, hc2⟩ := ints_cell' HX.out (k := j) (by omega)
      simp only [Value.slice.injEq, true_and] at he2
      obtain ⟨rfl, rfl⟩ := he2
      obtain ⟨y, hy⟩ : ∃ y, y = vs.getD j 0 := ⟨_, rfl⟩
      obtain ⟨s, hs⟩ : ∃ s, s = ks.getD j ByteArray.empty := ⟨_, rfl⟩
      rw [← hy] at hc2
      rw [← hs] at hc
      have hk1 : wr.cell? ⟨b, o + j, none⟩ = some (.string s) := by rw [(HB.out.cell (p := ⟨b, o + j, none⟩) (lt_of_cell' hc)), hc]
      have hk2 : wr.cell? ⟨b2, o2 + j, none⟩ = some (.int .i64 y) := by rw [(HB.out.cell (p := ⟨b2, o2 + j, none⟩) (lt_of_cell' hc2)), hc2]
      have jg : (0 : Int) ≤ j := by omega
      have j1 : (j : Int) < ks.length := by omega
      have j2 : (j : Int) < vs.length := by omega
      have j3 : j < vs.length := by omega
      have HY := Lib.hid hy
      have HSS := Lib.hid hs
      have HLT := Lib.hid hlt
      obtain ⟨w4, hup, hm4, hb4⟩ := SMap.update (P := Tryz.prog) (T := 63) (K := 9) (E := 20) (show SMap wr.drew w.heap.size (binds ks vs j) from HM.out) Tryz.underlying63 Tryz.underlying9 s (.iface 3 (.int .i64 y))
      have HM4 := Lib.hid hm4
      have HB4 := Lib.hid (show Below w.heap.size w w4 from Below.trans (Below.drew HB.out) (hb4 _ (Nat.le_refl _)))
      clear hy hs hc hc2 hm4 hb4
      go_wp2_with fail
      go_still_tail 10, (by kernel_rfl)
      go_wp2_with fail
      go_roundw
      case rel =>
        refine ⟨j + 1, HLT.out, by go_num, Lib.hid ?_, HB4⟩
        unfold binds
        rw [← HY.out, ← HSS.out]
        exact HM4.out
      case measure => simp [intOf]; omega
    · have hjn : j = ks.length := by omega
      have hg := binds_get ks vs k j
      have HI := fun u => index2_key u w.heap.size (binds ks vs j) k wr HM.out
      have HJ := Lib.hid hjn
      clear hjn
      cases hlo : lastOf ks k j with
      | none =>
        rw [hlo] at hg
        have hv : (sGet k (binds ks vs j)).getD .nilIface = .nilIface := by rw [hg]; rfl
        rw [hv] at HI
        have HI := Lib.hid HI
        have HLO := Lib.hid (show lastOf ks k ks.length = none by rw [← HJ.out]; exact hlo)
        clear hv hg hlo
        go_wp2_with fail
        refine (HI.out _).mono ?_
        rintro e w' ⟨rfl, rfl⟩
        go_wp2_with fail
        go_ret3
        exact ⟨by rw [HLO.out]; rfl, HB.out⟩
      | some t =>
        rw [hlo] at hg
        obtain ⟨y, hy⟩ : ∃ y, y = vs.getD t 0 := ⟨_, rfl⟩
        have hv : (sGet k (binds ks vs j)).getD .nilIface = .iface 3 (.int .i64 y) := by rw [hg, hy]; rfl
        rw [hv] at HI
        have HI := Lib.hid HI
        have HLO := Lib.hid (show lastOf ks k ks.length = some t by rw [← HJ.out]; exact hlo)
        have HY := Lib.hid hy
        clear hv hg hlo hy
        go_wp2_with fail
        refine (HI.out _).mono ?_
        rintro e w' ⟨rfl, rfl⟩
        go_wp2_with fail
        go_ret3
        exact ⟨by rw [HLO.out]; simp only [← HY.out]; rfl, HB.out⟩
end Go.Proofs.YtfgepnbfideliaaGreatDoor
