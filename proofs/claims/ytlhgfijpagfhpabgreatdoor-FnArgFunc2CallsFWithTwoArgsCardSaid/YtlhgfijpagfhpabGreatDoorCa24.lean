/- FnArgFunc2CallsFWithTwoArgs: it returns true. -/
import Derived.Test.YtlhgfijpagfhpabGreatDoorRune24
import Derived.Test.YtlhgfijpagfhpabGreatDoorAf24
import Derived.Test.YtlhgfijpagfhpabGreatDoorInts
import Derived.Laws.MakeOwn
import Derived.OwnWalk
import Derived.StillTailTactics
import Derived.Deep.DeepMust
import Derived.Maps.AppendAt
namespace Go.Proofs.YtlhgfijpagfhpabGreatDoor
open Go.RowKit
set_option maxRecDepth 100000
set_option maxHeartbeats 8000000
theorem clone24 (v : Value) (xs : List Int) (w : World) (hv : Ints w v xs) (hn : (xs.length : Int) ≤ 1048576) :
    Calls Tryz.prog 16 #[v] w fun e w' => ∃ p c, e = .returned (.slice p xs.length c) ∧ Ints w' (.slice p xs.length c) xs ∧ Below w.heap.size w w' := by
  rcases hv with ⟨rfl, rfl⟩ | ⟨p0, cap, rfl, rfl⟩ | ⟨b, o, cap, rfl, hc⟩
  · go_enter Tryz.func16, Tryz.ntmps16
    go_wp2
    go_ret
    exact ⟨_, _, rfl, Or.inl ⟨rfl, rfl⟩, Below.refl _ _⟩
  · have hmk := mkInt 0 (by omega)
    simp only [Int.natCast_zero] at hmk
    go_enter Tryz.func16, Tryz.ntmps16
    go_wp2
    refine wp_loop_rounds 1 ?_
    rw [rounds_succ]
    go_wp2
    go_ret
    exact ⟨_, _, rfl, Or.inr (Or.inl ⟨_, _, rfl, rfl⟩), (Below.refl _ _).alloc (Nat.le_refl _) _⟩
  · have HC := Lib.hid hc
    clear hc
    have hmk := mkInt xs.length (by omega)
    go_enter Tryz.func16, Tryz.ntmps16
    go_wp2
    have HR := Lib.hid (World.rowIs_made w (.int .i64 0) xs.length 3)
    go_loopw [4] (fun i wr => ∃ k : Nat, k ≤ xs.length ∧ i = .int .i64 k ∧ Hid (Below w.heap.size w wr) ∧ Hid (wr.rowIs w.heap.size 3 xs.length (fillN xs k))) (fun i _ => xs.length - (intOf i).toNat)
    case atStart => exact ⟨0, Nat.zero_le _, rfl, Lib.hid ((Below.refl _ _).alloc (Nat.le_refl _) _), Lib.hid (HR.out.congr fun i _ => by unfold fillN; rw [if_neg (by omega)])⟩
    case round =>
      obtain ⟨k, hk, rfl, HB, HW⟩ := hrel
      clear HR hmk
      by_cases hlt : (k : Int) < xs.length
      · have hk' : k < xs.length := by omega
        have hcell : wr.cell? ⟨b, o + k, none⟩ = some (.int .i64 xs[k]) := by
          have h := HC.out k hk'
          rw [(HB.out.cell (p := ⟨b, o + k, none⟩) (lt_of_cell' h)), h]
        have h1 : wr.cell? ⟨w.heap.size, k, none⟩ = some (fillN xs k k) := HW.out.cell hk'
        have h2 : wr.frozen? ⟨w.heap.size, k, none⟩ = false := HW.out.frozen k
        have kg : (0 : Int) ≤ k := by omega
        go_wp2
        go_roundw
        case rel => exact ⟨k + 1, by omega, by go_num, Lib.hid (HB.out.setCell (Nat.le_refl _) _), Lib.hid ((HW.out.set k _).congr fun i _ => fillN_step xs k hk' i)⟩
        case measure => simp [intOf]; omega
      · go_wp2
        go_ret
        refine ⟨_, _, rfl, Or.inr (Or.inr ⟨_, _, _, rfl, fun i hi => ?_⟩), HB.out⟩
        rw [Nat.zero_add, HW.out.cell hi]
        unfold fillN
        rw [if_pos (by omega)]
        simp [List.getD, hi]
/-- The closure of argFunc2: the first two arguments handed on. -/
theorem closure24 (u : Value) (b c n d : Nat) (s : ByteArray) (i : Int) (w : World) (hs : (s.size : Int) ≤ 1048576) (hi : -9223372036854775808 ≤ i ∧ i ≤ 9223372036854775807) (hn : 2 ≤ n) (hn2 : (n : Int) ≤ 2097152)
    (h0 : w.cell? ⟨b, 0, none⟩ = some (.iface 9 (.string s))) (h1 : w.cell? ⟨b, 1, none⟩ = some (.iface 3 (.int .i64 i))) (hf : w.cell? ⟨d, 0, none⟩ = some (.func (.func 26) #[] #[])) :
    Calls Tryz.prog 31 #[u, .slice (some ⟨b, 0, none⟩) n c, .pointer (some ⟨d, 0, none⟩)] w (IdxGives s i w) := by
  have H := Lib.hid (fun W => index2_str u s i W hs hi)
  have t1 : (1 : Int) < n := by omega
  have n0 : 0 < n := by omega
  have n1 : 1 < n := by omega
  have t0 : (0 : Int) < n := by omega
  clear hs hi
  go_enter Tryz.func31, Tryz.ntmps31
  go_wp2_with fail
  go_still_tail 8, (by kernel_rfl)
  go_wp2_with fail
  refine (H.out _).mono ?_
  rintro e w1 ⟨⟨v, rfl, hv⟩, hb⟩
  have HV := Lib.hid hv
  have HB := Lib.hid (show Below w.heap.size w w1 from ⟨hb.os, hb.tape, hb.output, hb.size, hb.block⟩)
  clear hv hb
  go_wp2_with fail
  go_ret
  exact ⟨⟨v, rfl, HV.out⟩, HB.out⟩
@[go_sem] theorem any_eq_nil (W : World) (u : TypeId) (v : Value) : (binOp .eql 20 (.iface u v) .nilIface).run Tryz.prog W = .ok (.bool false) W := by kernel_rfl
@[go_sem] theorem any_eq_nil0 (W : World) : (binOp .eql 20 .nilIface .nilIface).run Tryz.prog W = .ok (.bool true) W := by kernel_rfl
theorem info_any : (Tryz.prog.info? 20).map (fun i => (i.zero, i.size, i.bytes)) = some (some .nilIface, 1, 16) := by kernel_rfl
/-- make([]any, 0, n). -/
theorem mkCap (n : Nat) (C : Int) (hC : C = n) (h : n ≤ 1099511627776) (w : World) : (Instr.makeSlice 44 (.int .i64 0) (.int .i64 C)).run Tryz.prog w = .ok (.slice (some ⟨w.heap.size, 0, none⟩) 0 n) (w.alloc (.cells (madeCells #[.nilIface] n) 20)) := by
  subst hC
  obtain ⟨i0, hi0, hz0, hz1, hz2⟩ := info_parts info_any
  have h := run_make (P := Tryz.prog) w 44 20 i0 .nilIface Tryz.underlying44 hi0 hz0 .i64 .i64 0 n (by omega) (by omega) (by rw [hz2]; omega) (by omega)
  rw [hz1] at h
  simpa [Value.cells] using h
theorem cell_one_at (w : World) (x : Value) (t : TypeId) {n : Nat} (h : n = w.heap.size) : ∀ j u, [x][j]? = some u → (w.alloc (.cells #[x] t)).cell? ((⟨n, 0, none⟩ : Addr).add j) = some u := by
  subst h; exact cell_one_new w x t
/-- What ZZCall2Str hands out. -/
def Call2 (s : ByteArray) (i : Int) (w : World) (e : Ending) (w' : World) : Prop :=
  ((∃ (k : Nat) (h : k < (runesOf s).length), (if i < 0 then i + (runesOf s).length else i) = k ∧ e = .returned (.tuple #[.string (Utf8.encode ((runesOf s)[k] : Nat)), .bool true, .bool false])) ∨
  (((if i < 0 then i + (runesOf s).length else i) < 0 ∨ ((runesOf s).length : Int) ≤ (if i < 0 then i + (runesOf s).length else i)) ∧ e = .returned (.tuple #[.string ⟨#[]⟩, .bool false, .bool true]))) ∧ Below w.heap.size w w'
theorem call2 (u s : ByteArray) (d : Nat) (i : Int) (x : Value) (xs : List Int) (w : World) (hx : Ints w x xs) (hn : (xs.length : Int) ≤ 1048576) (hs : (s.size : Int) ≤ 1048576) (hi : -9223372036854775808 ≤ i ∧ i ≤ 9223372036854775807)
    (hf : w.cell? ⟨d, 0, none⟩ = some (.func (.func 26) #[] #[])) :
    Calls Tryz.prog 17 #[.agg #[.int .i64 4, .bool false, .func (.func 31) #[] #[.pointer (some ⟨d, 0, none⟩)]], .string u, .string s, .int .i64 i, x] w (Call2 s i w) := by
  obtain ⟨i0, hi0, hz0, hz1, hz2⟩ := info_parts info_any
  obtain ⟨p, c, rfl⟩ := hx.slice
  go_enter Tryz.func17, Tryz.ntmps17
  have hmk := fun W => mkCap (xs.length + 2) ((xs.length : Int) + 2) (by simp) (by omega) W
  have ho1 := (World.ownsRow_made (e := 20) (size := 1) (base := w.heap.size + 1) (w.alloc (.cells #[.int .i64 4, .bool false, .func (.func 31) #[] #[.pointer (some ⟨d, 0, none⟩)]] 39)) (madeCells #[.nilIface] (xs.length + 2)) (xs.length + 2) (by simp) (by unfold maxLen; omega) (by simp [size_madeCells]))
  rw [World.size_alloc] at ho1
  have hown1 := Lib.hid ho1
  clear ho1
  go_wp2_with (first
    | (at_builtin; refine wpList_append_fits _ rfl (.tmp 23) (.tmp 26) 44 rfl (w.heap.size + 1) 20 i0 1 Tryz.underlying44 hi0 hz1 (w.heap.size + 1) 0 (xs.length + 2) [] rfl (hown1.out.alloc _) ⟨_, 0, none⟩ 1 1 [.iface 9 (.string s)] rfl rfl (cell_one_at _ _ _ (by simp)) (by simp [Value.oneCell']) (by omega) ?_; intro w2 hown2 hgrow2; have hw2 := hgrow2.size)
    | (at_builtin; go_must (refine wpList_append_fits _ rfl (.tmp 28) (.tmp 31) 44 rfl (w.heap.size + 1) 20 i0 1 Tryz.underlying44 hi0 hz1 (w.heap.size + 1) 1 (xs.length + 2) [.iface 9 (.string s)] rfl (hown2.alloc _) ⟨_, 0, none⟩ 1 1 [.iface 3 (.int .i64 i)] rfl rfl (cell_one_at _ _ _ (by simp)) (by simp [Value.oneCell']) (by omega) ?_; intro w3 hown3 hgrow3)))
  have HX := Lib.hid hx
  have hd := lt_of_cell' hf
  have HF := Lib.hid hf
  have HB3 := Lib.hid (show Below (w.heap.size + 1) (w.alloc (.cells #[.int .i64 4, .bool false, .func (.func 31) #[] #[.pointer (some ⟨d, 0, none⟩)]] 39)) w3 from
    (((((Below.refl _ _).alloc (by simp) _).alloc (by simp) _).grown hgrow2 (by simp) (fun k hk => by cases hk; omega)).alloc (by simp at hw2; omega) _).grown hgrow3 (by simp at hw2 ⊢; omega) (fun k hk => by cases hk; omega))
  have HO3 := Lib.hid hown3
  have hw3 : w.heap.size + 3 ≤ w3.heap.size := by have h1 := hgrow3.size; simp at h1 hw2; omega
  clear hx hf hgrow2 hgrow3 hown2 hown3 hown1 hmk hw2
  go_loopw [13, 35] (fun vs vi wr => ∃ k : Nat, k ≤ xs.length ∧ vi = .int .i64 k ∧ vs = .slice (some ⟨w.heap.size + 1, 0, none⟩) (2 + k) (xs.length + 2) ∧ Hid (wr.ownsRow (w.heap.size + 1) 20 1 (.slice (some ⟨w.heap.size + 1, 0, none⟩) (2 + k) (xs.length + 2)) (2 + k) (.iface 9 (.string s) :: .iface 3 (.int .i64 i) :: (xs.take k).map fun n => .iface 3 (.int .i64 n))) ∧
    Hid (Below (w.heap.size + 1) (w.alloc (.cells #[.int .i64 4, .bool false, .func (.func 31) #[] #[.pointer (some ⟨d, 0, none⟩)]] 39)) wr) ∧ w.heap.size + 2 ≤ wr.heap.size) (fun _ i _ => xs.length - (intOf i).toNat)
  case atStart => exact ⟨0, Nat.zero_le _, rfl, rfl, Lib.hid HO3.out, HB3, by omega⟩
  case round =>
    obtain ⟨k, hk, rfl, rfl, HO, HB, hz⟩ := hrel
    clear HO3 HB3 hw3
    by_cases hlt : k < xs.length
    · obtain ⟨b, o, c', he, hc⟩ : ∃ b o c', Value.slice p xs.length c = .slice (some ⟨b, o, none⟩) xs.length c' ∧ w.cell? ⟨b, o + k, none⟩ = some (.int .i64 xs[k]) := by
        rcases HX.out with ⟨h1, h2⟩ | ⟨a, cap, h1, h2⟩ | ⟨b, o, cap, h1, h2⟩
        · rw [h2] at hlt; simp at hlt
        · rw [h2] at hlt; simp at hlt
        · exact ⟨b, o, cap, h1, h2 k hlt⟩
      simp only [Value.slice.injEq, true_and] at he
      obtain ⟨rfl, rfl⟩ := he
      have hcell : wr.cell? ⟨b, o + k, none⟩ = some (.int .i64 xs[k]) := by
        have hl := lt_of_cell' hc
        rw [HB.out.cell (p := ⟨b, o + k, none⟩) (by show b < _; omega), World.cell?_alloc_past _ _ _ hl]
        exact hc
      have kg : (0 : Int) ≤ k := by omega
      have HN := Lib.hid hlt
      go_wp2_with (at_builtin; go_must (refine wpList_append_fits _ rfl (.tmp 39) (.tmp 42) 44 rfl (w.heap.size + 1) 20 i0 1 Tryz.underlying44 hi0 hz1 (w.heap.size + 1) (2 + k) (xs.length + 2) _ rfl (HO.out.alloc _) ⟨_, 0, none⟩ 1 1 [.iface 3 (.int .i64 xs[k])] rfl rfl (cell_one_at _ _ _ rfl) (by simp [Value.oneCell']) (by omega) ?_; intro w4 hown4 hgrow4))
      go_wp2_with fail
      go_roundw
      case rel =>
        have hs4 := hgrow4.size
        refine ⟨k + 1, HN.out, by go_num, rfl, Lib.hid ?_, Lib.hid ((HB.out.alloc (by omega) _).grown hgrow4 (by simp; omega) (fun j hj => by cases hj; omega)), by simp at hs4; omega⟩
        have ht : xs.take (k + 1) = xs.take k ++ [xs[k]'HN.out] := List.take_succ_eq_append_getElem HN.out
        rw [ht, List.map_append]
        exact hown4
      case measure => simp [intOf]; omega
    · have hkn : k = xs.length := by omega
      have c0 : wr.cell? ⟨w.heap.size + 1, 0, none⟩ = some (.iface 9 (.string s)) := HO.out.cells (g := w.heap.size + 1) rfl 0 _ rfl
      have c1 : wr.cell? ⟨w.heap.size + 1, 1, none⟩ = some (.iface 3 (.int .i64 i)) := HO.out.cells (g := w.heap.size + 1) rfl 1 _ rfl
      have cf : wr.cell? ⟨d, 0, none⟩ = some (.func (.func 26) #[] #[]) := by
        rw [HB.out.cell (p := ⟨d, 0, none⟩) (by show d < _; omega), World.cell?_alloc_past _ _ _ hd]
        exact HF.out
      have cb : wr.cell? ⟨w.heap.size, 2, none⟩ = some (.func (.func 31) #[] #[.pointer (some ⟨d, 0, none⟩)]) := by
        rw [HB.out.cell (p := ⟨w.heap.size, 2, none⟩) (by show w.heap.size < _; omega)]
        simp
      have HC := Lib.hid (closure24 (.iface 9 (.string u)) (w.heap.size + 1) (xs.length + 2) (2 + k) d s i wr hs hi (by omega) (by omega) c0 c1 cf)
      have HK := Lib.hid hkn
      clear c0 c1 cf hkn
      go_wp2_with fail
      refine HC.out.mono ?_
      rintro e w5 ⟨⟨v, rfl, hv⟩, hb⟩
      have HV := Lib.hid hv
      have HB5 := Lib.hid (show Below w.heap.size w w5 from (((Below.refl _ _).alloc (Nat.le_refl _) _).trans (HB.out.mono (Nat.le_succ _))).trans (hb.mono (by omega)))
      rcases hv with ⟨j, hj, h1, rfl⟩ | ⟨h1, rfl⟩
      · clear hb
        go_wp2_with fail
        go_quiet (fail)
        go_wp2_with fail
        go_ret3
        exact ⟨Or.inl ⟨j, hj, h1, rfl⟩, Below.trans HB5.out ⟨rfl, rfl, rfl, Nat.le_refl _, fun _ _ => rfl⟩⟩
      · clear hb
        go_wp2_with fail
        go_quiet (fail)
        go_wp2_with fail
        go_ret3
        exact ⟨Or.inr ⟨h1, rfl⟩, Below.trans HB5.out ⟨rfl, rfl, rfl, Nat.le_refl _, fun _ _ => rfl⟩⟩
theorem zzArgFunc2B (w : World) :
    Calls Tryz.prog 18 #[] w fun e w' => (∃ d, e = .returned (.agg #[.int .i64 4, .bool false, .func (.func 31) #[] #[.pointer (some ⟨d, 0, none⟩)]]) ∧ w'.cell? ⟨d, 0, none⟩ = some (.func (.func 26) #[] #[])) ∧ Below w.heap.size w w' :=
  (zzArgFunc2 w).mono fun e w' ⟨h1, h2⟩ => by
    subst h2
    refine ⟨⟨_, h1, ?_⟩, (((Below.refl _ _).alloc (Nat.le_refl _) _).alloc (by simp) _).alloc (by simp; omega) _⟩
    rw [World.cell?_alloc_past _ _ _ (by simp)]
    exact (World.cell?_alloc_at _ _ _ _ (by simp)).trans rfl
theorem bytesCA (v s : ByteArray) (i : Int) (q : Option Addr) (m d : Nat) (w : World) (hv : (v.size : Int) ≤ 9223372036854775807) (hs : (s.size : Int) ≤ 9223372036854775807) (hm : (m : Int) ≤ 9223372036854775807) (h : (v.size : Int) + s.size + m ≤ 1048576) :
    Calls Tryz.prog 15 #[.string v, .string s, .int .i64 i, .slice q m d] w fun e w' => e = .returned (.bool true) ∧ w = w' := by
  go_enter Tryz.func15, Tryz.ntmps15
  go_wp2
  go_ret
  exact ⟨rfl, rfl⟩
theorem bytesCA_no (v s : ByteArray) (i : Int) (q : Option Addr) (m d : Nat) (w : World) (hv : (v.size : Int) ≤ 9223372036854775807) (hs : (s.size : Int) ≤ 9223372036854775807) (hm : (m : Int) ≤ 9223372036854775807) (h : ¬ (v.size : Int) + s.size + m ≤ 1048576) :
    Calls Tryz.prog 15 #[.string v, .string s, .int .i64 i, .slice q m d] w fun e w' => e = .returned (.bool false) ∧ w = w' := by
  go_enter Tryz.func15, Tryz.ntmps15
  go_wp2
  all_goals
    go_ret
    exact ⟨rfl, rfl⟩
theorem law_CA (w : World) (v : ByteArray) (hv : (v.size : Int) ≤ 9223372036854775807) (s : ByteArray) (hs : (s.size : Int) ≤ 9223372036854775807) (i : Int) (hi : -9223372036854775808 ≤ i ∧ i ≤ 9223372036854775807)
    (xs : List Int) (p : Option Addr) (c : Nat) (hx : Ints w (.slice p xs.length c) xs) (hl : (xs.length : Int) ≤ 9223372036854775807) (_ : ∀ x ∈ xs, -9223372036854775808 ≤ x ∧ x ≤ 9223372036854775807) :
    Calls Tryz.prog 5 #[.string v, .string s, .int .i64 i, .slice p xs.length c] w fun e w' => e = .returned (.bool true) ∧ Below w.heap.size w w' := by
  by_cases h : (v.size : Int) + s.size + xs.length ≤ 1048576
  case neg =>
    have H := Lib.hid (bytesCA_no v s i p xs.length c w hv hs hl h)
    clear h hx hl hv hs
    go_enter Tryz.func5, Tryz.ntmps5
    go_wp2_with fail
    refine H.out.mono ?_
    rintro e w' ⟨rfl, rfl⟩
    go_wp2_with fail
    go_ret
    exact ⟨rfl, Below.refl _ _⟩
  case pos =>
    have H := Lib.hid (bytesCA v s i p xs.length c w hv hs hl h)
    have HX := Lib.hid hx
    have hs1 : (s.size : Int) ≤ 1048576 := by omega
    have hx1 : (xs.length : Int) ≤ 1048576 := by omega
    clear hx
    by_cases h2 : xs.length ≤ 65536 ∧ (v.size : Int) + s.size + 8 * xs.length ≤ 1048576
    · obtain ⟨h2, h3⟩ := h2
      go_enter Tryz.func5, Tryz.ntmps5
      go_wp2_with fail
      refine H.out.mono ?_
      rintro e w' ⟨rfl, rfl⟩
      go_wp2_with fail
      refine (clone24 _ xs _ HX.out hx1).mono ?_
      rintro e w1 ⟨p1, c1, rfl, hi1, hb⟩
      have HI := Lib.hid hi1
      have HB := Lib.hid hb
      clear hi1 hb
      go_wp2_with fail
      refine (zzArgFunc2B _).mono ?_
      rintro e w2 ⟨⟨d, rfl, hd⟩, hb⟩
      have HC := Lib.hid (call2 v s d i _ xs w2 (HI.out.below hb) hx1 hs1 hi hd)
      have HB2 := Lib.hid (HB.out.trans (hb.mono HB.out.size))
      clear hb hd
      go_wp2_with fail
      refine HC.out.mono ?_
      rintro e w3 ⟨hr, hb⟩
      have HB3 := Lib.hid (HB2.out.trans (hb.mono HB2.out.size))
      obtain ⟨c3, w4, hcv, hb4, hcell⟩ := toRunes s w3 hs1
      have HCL := Lib.hid hcell
      have HB4 := Lib.hid (HB3.out.trans (hb4.mono HB3.out.size))
      have hl4 := runesOf_length s
      clear hb hb4 hcell HC H
      rcases hr with ⟨k, hk, hj, rfl⟩ | ⟨hj, rfl⟩
      · obtain ⟨r, hr⟩ : ∃ r, r = (runesOf s)[k] := ⟨_, rfl⟩
        have ck := HCL.out k hk
        rw [← hr] at ck ⊢
        obtain ⟨L, hL⟩ : ∃ L, L = (runesOf s).length := ⟨_, rfl⟩
        rw [← hL] at hk hj hcv hl4
        clear HCL hr hL
        by_cases hneg : i < 0
        · rw [if_pos hneg] at hj
          have hs2 : (L : Int) + i = k := by omega
          have hneg2 : -(L : Int) ≤ i := by omega
          have HJ := Lib.hid hj
          clear hj
          go_wp2_with fail
          go_ret
          exact ⟨rfl, HB4.out⟩
        · rw [if_neg hneg] at hj
          subst hj
          go_wp2_with fail
          go_ret
          exact ⟨rfl, HB4.out⟩
      · obtain ⟨L, hL⟩ : ∃ L, L = (runesOf s).length := ⟨_, rfl⟩
        rw [← hL] at hj hcv hl4
        clear HCL hL
        by_cases hneg : i < 0
        · rw [if_pos hneg] at hj
          have hj2 : i < -(L : Int) := by omega
          clear hj
          go_wp2_with fail
          go_ret
          exact ⟨rfl, HB4.out⟩
        · rw [if_neg hneg] at hj
          have hj2 : (L : Int) ≤ i := by omega
          clear hj
          go_wp2_with fail
          go_ret
          exact ⟨rfl, HB4.out⟩
    · go_enter Tryz.func5, Tryz.ntmps5
      go_wp2_with fail
      refine H.out.mono ?_
      rintro e w' ⟨rfl, rfl⟩
      go_wp2_with fail
      all_goals
        first
          | (go_ret; exact ⟨rfl, Below.refl _ _⟩)
          | (exfalso; omega)
end Go.Proofs.YtlhgfijpagfhpabGreatDoor
