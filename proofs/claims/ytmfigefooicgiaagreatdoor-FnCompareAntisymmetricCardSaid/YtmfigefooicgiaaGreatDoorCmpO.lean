/- Compare on two objects of one entry each: keys, funcKeys, Compare$3, Compare. -/
import Derived.Test.YtmfigefooicgiaaGreatDoorCmpA
import Derived.Test.YtmfigefooicgiaaGreatDoorMapL
namespace Go.Proofs.YtmfigefooicgiaaGreatDoor
open Go.RowKit
set_option maxRecDepth 100000
set_option maxHeartbeats 1000000
theorem sort1 (b : Nat) (w : World)  :
    Calls Tryz.prog 56 #[.slice (some ⟨b, 0, none⟩) 1 1] w fun e w' => e = .returned (.tuple #[]) ∧ w = w' := by
  go_enter Tryz.func56, Tryz.ntmps56
  go_wp2
  refine wp_loop_rounds 1 ?_
  rw [rounds_succ]
  go_wp2
  refine wp_loop_rounds 1 ?_
  rw [rounds_succ]
  go_wp2
  go_end0
  go_wp2
  refine bodyPost_ret (results_none rfl _ _ _) rfl ?_
  go_wp2
  go_end0
  go_wp2
  go_end0
  exact ⟨rfl, rfl⟩
theorem keys1 (r : Nat) (s : ByteArray) (v : Value) (w : World) (hb : w.heap[r]? = some (.map #[⟨.string s, v, 0⟩] 1)) :
    Calls Tryz.prog 43 #[.map (some r)] w fun e w' => e = .returned (.slice (some ⟨w.heap.size, 0, none⟩) 1 1) ∧ Below w.heap.size w w' ∧ w'.cell? ⟨w.heap.size, 0, none⟩ = some (.string s) := by
  have hl := run_len1 (P := Tryz.prog) Tryz.underlying47 3 w r _ _ hb
  simp only [List.size_toArray, List.length_cons, List.length_nil, Nat.zero_add, Int.natCast_one] at hl
  have hmk : ∀ w : World, (Instr.makeSlice 66 (.int .i64 1) (.int .i64 1)).run Tryz.prog w = .ok (.slice (some ⟨w.heap.size, 0, none⟩) 1 1) (w.alloc (.cells #[.string ⟨#[]⟩] 9)) := fun _ => by kernel_rfl
  have hb1 : ∀ x, (w.alloc (.cells #[x] 9)).heap[r]? = some (.map #[⟨.string s, v, 0⟩] 1) := fun x => heap_old w _ hb
  have sz : ∀ x, (w.alloc (.cells #[x] 9)).heap.size = w.heap.size + 1 := fun x => by simp
  have hr := run_range1 (P := Tryz.prog) Tryz.underlying47 _ r _ _ (hb1 (.string ⟨#[]⟩))
  have hn := run_next1_last (P := Tryz.prog) _ 0 r _ _ (hb1 (.string ⟨#[]⟩))
  have he := run_entry1_last (P := Tryz.prog) _ r _ _ (hb1 (.string ⟨#[]⟩))
  have ho := run_next1_last_over (P := Tryz.prog) _ 0 r _ _ (hb1 (.string s))
  rw [sz] at hr hn he ho
  clear hb1 sz hb
  go_enter Tryz.func43, Tryz.ntmps43
  go_wp2_with fail
  refine wp_loop_rounds 2 ?_
  rw [rounds_succ]
  go_wp2_with fail
  rw [rounds_succ]
  go_wp2_with fail
  refine (sort1 _ _).mono ?_
  rintro e w' ⟨rfl, rfl⟩
  go_wp2_with fail
  go_ret
  exact ⟨rfl, ((Below.refl _ _).alloc (Nat.le_refl _) _).alloc (by simp) _, by simp⟩
theorem funcKeys1 (r : Nat) (s : ByteArray) (v : Value) (w : World) (hb : w.heap[r]? = some (.map #[⟨.string s, v, 0⟩] 1)) :
    Calls Tryz.prog 34 #[.iface 47 (.map (some r))] w fun e w' => e = .returned (.iface 46 (.slice (some ⟨w.heap.size, 0, none⟩) 1 1)) ∧ Below w.heap.size w w' ∧ w'.cell? ⟨w.heap.size, 0, none⟩ = some (.iface 9 (.string s)) := by
  have hl := run_len1 (P := Tryz.prog) Tryz.underlying47 3 w r _ _ hb
  simp only [List.size_toArray, List.length_cons, List.length_nil, Nat.zero_add, Int.natCast_one] at hl
  have hmk : ∀ w : World, (Instr.makeSlice 46 (.int .i64 1) (.int .i64 1)).run Tryz.prog w = .ok (.slice (some ⟨w.heap.size, 0, none⟩) 1 1) (w.alloc (.cells #[.nilIface] 20)) := fun _ => by kernel_rfl
  have HK := Lib.hid (keys1 r s v (w.alloc (.cells #[.nilIface] 20)) (heap_old w _ hb))
  clear hb
  go_enter Tryz.func34, Tryz.ntmps34
  go_wp2_with fail
  refine HK.out.mono ?_
  rintro e w1 ⟨rfl, hbl, hc1⟩
  have hz := hbl.size
  have hc := hbl.cell (p := ⟨w.heap.size, 0, none⟩) (by simp)
  have hf := hbl.frozen (p := ⟨w.heap.size, 0, none⟩) (by simp)
  simp only [World.size_alloc] at hz hc1
  go_wp2_with fail
  refine wp_loop_rounds 2 ?_
  rw [rounds_succ]
  go_wp2_with fail
  rw [rounds_succ]
  go_wp2_with fail
  go_ret
  have hc0 : w1.cell? ⟨w.heap.size, 0, none⟩ = some .nilIface := by rw [hc]; simp
  refine ⟨rfl, ?_, ?_⟩
  · exact (((Below.refl _ _).alloc (Nat.le_refl _) _).trans (hbl.mono (by simp))).setCell (Nat.le_refl _) _
  · exact World.cell?_setCell_same (w := w1) (v := _) (h := hc0)
theorem lt_of_block {w : World} {r : Nat} {o : Obj} (h : w.heap[r]? = some o) : r < w.heap.size := by
  rcases Nat.lt_or_ge r w.heap.size with h' | h'
  · exact h'
  · rw [Array.getElem?_eq_none h'] at h; cases h
theorem lt_of_cell {w : World} {b o : Nat} {v : Value} (h : w.cell? ⟨b, o, none⟩ = some v) : b < w.heap.size := by
  rcases Nat.lt_or_ge b w.heap.size with h' | h'
  · exact h'
  · have : w.heap[b]? = none := Array.getElem?_eq_none h'
    simp [World.cell?, this] at h
theorem fnz_one (c d : Int) : fnz (fun _ => c) d 1 0 = if c = 0 then d else c := rfl
/-- Compare of two arrays of one string each. -/
theorem cmpArr_one (s1 s2 : ByteArray) (b1 b2 : Nat) (w : World) (h1 : w.cell? ⟨b1, 0, none⟩ = some (.iface 9 (.string s1))) (h2 : w.cell? ⟨b2, 0, none⟩ = some (.iface 9 (.string s2))) :
    Calls Tryz.prog 19 #[.iface 46 (.slice (some ⟨b1, 0, none⟩) 1 1), .iface 46 (.slice (some ⟨b2, 0, none⟩) 1 1)] w fun e w' => e = .returned (.int .i64 (cmpS s1 s2)) ∧ ∃ q, w' = w.drewN q := by
  refine (cmpArr_any 1 1 1 1 _ _ (fun _ => .iface 9 (.string s1)) (fun _ => .iface 9 (.string s2)) (fun _ => cmpS s1 s2) w (by omega) (by omega) ⟨b1, 0, rfl, fun i hi => ?_⟩ ⟨b2, 0, rfl, fun i hi => ?_⟩ (fun i _ _ W => compare (.str s1) (.str s2) _ rfl W)).mono ?_
  · obtain rfl : i = 0 := by omega
    exact h1
  · obtain rfl : i = 0 := by omega
    exact h2
  · rintro e w' ⟨rfl, hq⟩
    refine ⟨?_, hq⟩
    rw [show min 1 1 = 1 from rfl, fnz_one]
    by_cases h : cmpS s1 s2 = 0
    · rw [if_pos h, h]; rfl
    · rw [if_neg h]
theorem cmpS_eq {s1 s2 : ByteArray} (h : cmpS s1 s2 = 0) : s1 = s2 := by
  unfold cmpS at h
  split at h
  · omega
  · split at h
    · rename_i e
      rw [ByteArray.toList_eq, ByteArray.toList_eq] at e
      exact ByteArray.ext (Array.ext' (by simpa using e))
    · omega
/-- Compare$3 at two objects of one entry each. -/
theorem cmpObj_ne (r1 r2 : Nat) (s1 s2 : ByteArray) (x y : Value) (w : World) (hb1 : w.heap[r1]? = some (.map #[⟨.string s1, x, 0⟩] 1)) (hb2 : w.heap[r2]? = some (.map #[⟨.string s2, y, 0⟩] 1)) (h0 : cmpS s1 s2 ≠ 0) :
    Calls Tryz.prog 33 #[.map (some r1), .map (some r2)] w fun e w' => e = .returned (.int .i64 (cmpS s1 s2)) ∧ Below w.heap.size w w' := by
  have t0 : (cmpS s1 s2 != 0) = true := by simp [h0]
  clear h0
  have HB1 := Lib.hid hb1
  have HB2 := Lib.hid hb2
  have lt1 : r1 < w.heap.size := lt_of_block hb1
  have lt2 : r2 < w.heap.size := lt_of_block hb2
  clear hb1 hb2
  go_enter Tryz.func33, Tryz.ntmps33
  go_wp2_with fail
  refine (funcKeys1 r1 s1 _ _ HB1.out).mono ?_
  rintro e w1 ⟨rfl, hbl1, hc1⟩
  have HL1 := Lib.hid hbl1
  clear hbl1
  go_wp2_with fail
  refine (funcKeys1 r2 s2 _ _ ((HL1.out.block r2 lt2).trans HB2.out)).mono ?_
  rintro e w2 ⟨rfl, hbl2, hc2⟩
  have HL2 := Lib.hid hbl2
  clear hbl2
  have hz : w.heap.size < w1.heap.size := lt_of_cell hc1
  have hc3 : w2.cell? ⟨w.heap.size, 0, none⟩ = some (.iface 9 (.string s1)) := (HL2.out.cell (p := ⟨w.heap.size, 0, none⟩) hz).trans hc1
  clear hc1
  go_wp2_with fail
  refine (cmpArr_one s1 s2 _ _ w2 hc3 hc2).mono ?_
  rintro e w3 ⟨rfl, hq⟩
  have HQ := Lib.hid hq
  clear hq
  have hbl : Below w.heap.size w w3 := by
    obtain ⟨q, rfl⟩ := HQ.out
    exact below_drewN (HL1.out.trans (HL2.out.mono (by omega))) q
  have HL := Lib.hid hbl
  clear hbl
  have hc4 : w3.cell? ⟨w.heap.size, 0, none⟩ = some (.iface 9 (.string s1)) := by
    obtain ⟨q, rfl⟩ := HQ.out
    rw [World.cell?_drewN]; exact hc3
  clear hc3 hc2 HQ HL1 HL2 hz
  go_wp2_with fail
  go_ret
  exact ⟨rfl, HL.out⟩
theorem cmpObj_eq (r1 r2 : Nat) (s1 s2 : ByteArray) (x y : K) (c : Int) (hcmp : x.cmp y = some c) (w : World) (hb1 : w.heap[r1]? = some (.map #[⟨.string s1, x.val, 0⟩] 1)) (hb2 : w.heap[r2]? = some (.map #[⟨.string s2, y.val, 0⟩] 1)) (h0 : cmpS s1 s2 = 0) :
    Calls Tryz.prog 33 #[.map (some r1), .map (some r2)] w fun e w' => e = .returned (.int .i64 c) ∧ Below w.heap.size w w' := by
  have hs : s1 = s2 := cmpS_eq h0
  have t0 : (cmpS s1 s2 != 0) = false := by simp [h0]
  clear h0
  have HC := Lib.hid (compare x y c hcmp)
  clear hcmp
  have HB1 := Lib.hid hb1
  have HB2 := Lib.hid hb2
  have lt1 : r1 < w.heap.size := lt_of_block hb1
  have lt2 : r2 < w.heap.size := lt_of_block hb2
  clear hb1 hb2
  go_enter Tryz.func33, Tryz.ntmps33
  go_wp2_with fail
  refine (funcKeys1 r1 s1 _ _ HB1.out).mono ?_
  rintro e w1 ⟨rfl, hbl1, hc1⟩
  have HL1 := Lib.hid hbl1
  clear hbl1
  go_wp2_with fail
  refine (funcKeys1 r2 s2 _ _ ((HL1.out.block r2 lt2).trans HB2.out)).mono ?_
  rintro e w2 ⟨rfl, hbl2, hc2⟩
  have HL2 := Lib.hid hbl2
  clear hbl2
  have hz : w.heap.size < w1.heap.size := lt_of_cell hc1
  have hc3 : w2.cell? ⟨w.heap.size, 0, none⟩ = some (.iface 9 (.string s1)) := (HL2.out.cell (p := ⟨w.heap.size, 0, none⟩) hz).trans hc1
  clear hc1
  go_wp2_with fail
  refine (cmpArr_one s1 s2 _ _ w2 hc3 hc2).mono ?_
  rintro e w3 ⟨rfl, hq⟩
  have HQ := Lib.hid hq
  clear hq
  have hbl : Below w.heap.size w w3 := by
    obtain ⟨q, rfl⟩ := HQ.out
    exact below_drewN (HL1.out.trans (HL2.out.mono (by omega))) q
  have HL := Lib.hid hbl
  clear hbl
  have hc4 : w3.cell? ⟨w.heap.size, 0, none⟩ = some (.iface 9 (.string s1)) := by
    obtain ⟨q, rfl⟩ := HQ.out
    rw [World.cell?_drewN]; exact hc3
  clear hc3 hc2 HQ HL1 HL2 hz
  subst hs
  have l1 := fun n => run_lookup1 (P := Tryz.prog) Tryz.underlying47 Tryz.underlying9 (w3.drewN n) r1 _ _ ((HL.out.block r1 lt1).trans HB1.out)
  have l2 := fun n => run_lookup1 (P := Tryz.prog) Tryz.underlying47 Tryz.underlying9 (w3.drewN n) r2 _ _ ((HL.out.block r2 lt2).trans HB2.out)
  by_cases hc0 : c = 0
  · have t1 : (c != 0) = false := by simp [hc0]
    have HC0 := Lib.hid hc0
    clear hc0
    go_wp2_with fail
    refine wp_loop_rounds 2 ?_
    rw [rounds_succ]
    go_wp2_with fail
    go_quiet ((go_at_call 19; exact Calls.quiet_of_same ((HC.out _).mono fun _ _ ⟨h1, h2⟩ => ⟨h1, h2.symm⟩)))
    go_wp2_with fail
    rw [rounds_succ]
    go_wp2_with fail
    go_ret
    exact ⟨by rw [HC0.out]; rfl, below_drewN HL.out _⟩
  · have t1 : (c != 0) = true := by simp [hc0]
    clear hc0
    go_wp2_with fail
    refine wp_loop_rounds 2 ?_
    rw [rounds_succ]
    go_wp2_with fail
    go_quiet ((go_at_call 19; exact Calls.quiet_of_same ((HC.out _).mono fun _ _ ⟨h1, h2⟩ => ⟨h1, h2.symm⟩)))
    go_wp2_with fail
    go_ret
    exact ⟨rfl, below_drewN HL.out _⟩
end Go.Proofs.YtmfigefooicgiaaGreatDoor
