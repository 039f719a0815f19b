/- Code points of a string, as the conversion and the loop give them; clampIndex, toInt, indexString. -/
import Derived.Test.YtlhgfijpagfhpabGreatDoorTa
import Derived.Laws.RangeAny
import Derived.Laws.Runes
import Derived.Laws.IdiomStrings
namespace Go.Proofs.YtlhgfijpagfhpabGreatDoor
open Go.RowKit
set_option maxRecDepth 100000
set_option maxHeartbeats 4000000
/-- The code points of s from byte i on, at most b of them. -/
def decs (s : ByteArray) : Nat → Nat → List Nat
  | 0, _ => []
  | b + 1, i => if i < s.size then (Utf8.decode s i).1 :: decs s b (i + (Utf8.decode s i).2) else []
def runesOf (s : ByteArray) : List Nat := decs s s.size 0
theorem runesFrom_eq (s : ByteArray) : ∀ (b i : Nat) (acc : Array Value), Conv.runesFrom s b i acc = acc ++ ((decs s b i).map fun (n : Nat) => Value.int .i32 (n : Int)).toArray
  | 0, i, acc => by simp [Conv.runesFrom, decs]
  | b + 1, i, acc => by
    unfold Conv.runesFrom decs
    by_cases h : i < s.size
    · rw [if_pos h, if_pos h]
      simp only [runesFrom_eq s b]
      apply Array.ext'
      simp
    · rw [if_neg h, if_neg h]; simp
theorem runesFrom_all (s : ByteArray) : Conv.runesFrom s s.size 0 #[] = ((runesOf s).map fun (n : Nat) => Value.int .i32 (n : Int)).toArray := by
  rw [runesFrom_eq]; simp [runesOf]
theorem decs_length (s : ByteArray) : ∀ b i, (decs s b i).length ≤ b
  | 0, _ => by simp [decs]
  | b + 1, i => by
    unfold decs
    split
    · simp only [List.length_cons]; have := decs_length s b (i + (Utf8.decode s i).2); omega
    · simp
theorem runesOf_length (s : ByteArray) : (runesOf s).length ≤ s.size := decs_length s _ _
theorem decs_le (s : ByteArray) : ∀ b i, ∀ n ∈ decs s b i, n ≤ 2147483647
  | 0, _, n, h => by simp [decs] at h
  | b + 1, i, n, h => by
    unfold decs at h
    split at h
    · rcases List.mem_cons.1 h with rfl | h
      · exact decode_le s i
      · exact decs_le s b _ n h
    · simp at h
theorem decode_wide (s : ByteArray) (pos : Nat) (h : pos < s.size) : 1 ≤ (Utf8.decode s pos).2 := by
  by_cases ha : (s[pos]'h).toNat < 128
  · rw [decode_ascii s pos h ha]; exact Nat.le_refl _
  · exact (decode_high s pos h (by omega)).2
/-- What '[]rune(s)' leaves. -/
theorem toRunes (s : ByteArray) (w : World) (hs : (s.size : Int) ≤ 1048576) :
    ∃ c w1, (convert 9 41 (.string s)).run Tryz.prog w = .ok (.slice (some ⟨w.heap.size, 0, none⟩) (runesOf s).length c) w1 ∧ Below w.heap.size w w1 ∧
      (∀ k, (h : k < (runesOf s).length) → w1.cell? ⟨w.heap.size, k, none⟩ = some (.int .i32 ((runesOf s)[k] : Nat))) := by
  have hl := runesOf_length s
  have h := run_runes_of_string (P := Tryz.prog) w 9 41 21 s Tryz.underlying9 Tryz.underlying41 Tryz.underlying21 (by rw [runesFrom_all]; simp; omega)
  rw [runesFrom_all] at h
  simp only [List.size_toArray, List.length_map] at h
  refine ⟨_, _, h, ((Below.refl w.heap.size w).drew).alloc (Nat.le_refl _) _, fun k hk => ?_⟩
  refine (cell_of_row _ w.heap.size k _ _ (0, 0) (heap_alloc_new w.drew _)).trans ?_
  rw [Array.getElem?_append_left (by simpa using hk)]
  simp [hk]
def ClampTo (i l j : Int) : Prop := (if i < 0 then i + l else i) < -1 ∧ j = -1 ∨ -1 ≤ (if i < 0 then i + l else i) ∧ (if i < 0 then i + l else i) < l ∧ j = (if i < 0 then i + l else i) ∨ l ≤ (if i < 0 then i + l else i) ∧ j = l
def Clamped (i l : Int) (w : World) (e : Ending) (w' : World) : Prop := (∃ j : Int, e = .returned (.int .i64 j) ∧ ClampTo i l j) ∧ w = w'
theorem clamp_any (i l : Int) (w : World) (hi : -9223372036854775808 ≤ i ∧ i ≤ 9223372036854775807) (hl : 0 ≤ l ∧ l ≤ 1048576) :
    Calls Tryz.prog 58 #[.int .i64 i, .int .i64 (-1), .int .i64 l] w (Clamped i l w) := by
  by_cases h : i < 0
  · by_cases h1 : i + l < -1
    · go_enter Tryz.func58, Tryz.ntmps58
      go_wp2
      go_ret
      exact ⟨⟨_, rfl, by unfold ClampTo; rw [if_pos (by omega)]; omega⟩, rfl⟩
    · go_enter Tryz.func58, Tryz.ntmps58
      go_wp2
      go_ret
      exact ⟨⟨_, rfl, by unfold ClampTo; rw [if_pos (by omega)]; omega⟩, rfl⟩
  · by_cases h1 : i < l
    · go_enter Tryz.func58, Tryz.ntmps58
      go_wp2
      go_ret
      exact ⟨⟨_, rfl, by unfold ClampTo; rw [if_neg (by omega)]; omega⟩, rfl⟩
    · go_enter Tryz.func58, Tryz.ntmps58
      go_wp2
      go_ret
      exact ⟨⟨_, rfl, by unfold ClampTo; rw [if_neg (by omega)]; omega⟩, rfl⟩
theorem toInt_int (n : Int) (w : World) :
    Calls Tryz.prog 32 #[.iface 3 (.int .i64 n)] w fun e w' => e = .returned (.tuple #[.int .i64 n, .bool true]) ∧ w = w' := by
  go_enter Tryz.func32, Tryz.ntmps32
  go_wp2
  go_ret2
  exact ⟨rfl, rfl⟩
/-- What indexing a string by i gives. -/
def IdxStr (s : ByteArray) (i : Int) (v : Value) : Prop :=
  (∃ (k : Nat) (h : k < (runesOf s).length), (if i < 0 then i + (runesOf s).length else i) = k ∧ v = .iface 9 (.string (Utf8.encode ((runesOf s)[k] : Nat)))) ∨
  (((if i < 0 then i + (runesOf s).length else i) < 0 ∨ ((runesOf s).length : Int) ≤ (if i < 0 then i + (runesOf s).length else i)) ∧ v = .nilIface)
def IdxGives (s : ByteArray) (i : Int) (w : World) (e : Ending) (w' : World) : Prop := (∃ v, e = .returned v ∧ IdxStr s i v) ∧ Below w.heap.size w w'
/-- indexString on a string of at most a mebibyte. -/
theorem indexString (s : ByteArray) (i : Int) (w : World) (hs : (s.size : Int) ≤ 1048576) (hi : -9223372036854775808 ≤ i ∧ i ≤ 9223372036854775807) :
    Calls Tryz.prog 34 #[.string s, .int .i64 i] w (IdxGives s i w) := by
  obtain ⟨c, w1, hcv, hb1, hcell⟩ := toRunes s w hs
  have hl := runesOf_length s
  obtain ⟨L, hL⟩ : ∃ L, L = (runesOf s).length := ⟨_, rfl⟩
  rw [← hL] at hcv hl
  have HL := Lib.hid hL
  have HB1 := Lib.hid hb1
  have hz := hb1.size
  clear hb1 hcell hL
  go_enter Tryz.func34, Tryz.ntmps34
  go_wp2_with fail
  refine (clamp_any i L _ hi (by omega)).mono ?_
  rintro e w' ⟨⟨j, rfl, hj0⟩, rfl⟩
  have hj := Lib.hid hj0
  unfold ClampTo at hj0
  clear hj0
  clear hcv
  by_cases hin : 0 ≤ j ∧ j < L
  · obtain ⟨j1, j2⟩ := hin
    obtain ⟨k, rfl⟩ : ∃ k : Nat, j = k := ⟨j.toNat, by omega⟩
    have HJ := Lib.hid (show (if i < 0 then i + (L : Int) else i) = k by have := hj.out; unfold ClampTo at this; omega)
    have hk : k < (runesOf s).length := by rw [← HL.out]; omega
    have HK := Lib.hid hk
    clear hj hk
    go_wp2_with fail
    go_loopw [1] (fun vi wr => ∃ (pos b m : Nat), wr = w1.iter s pos ∧ vi = .int .i64 m ∧ m ≤ k ∧ Hid (s.size ≤ pos + b) ∧ Hid (decs s b pos = (runesOf s).drop (k - m))) (fun _ wr => s.size - wr.iterPos w1.heap.size)
    case atStart => exact ⟨0, s.size, k, rfl, rfl, Nat.le_refl _, Lib.hid (by omega), Lib.hid (by rw [Nat.sub_self]; rfl)⟩
    case round =>
      obtain ⟨pos, b, m, rfl, rfl, hm, HS, HD⟩ := hrel
      have hp : pos < s.size := by
        apply Classical.byContradiction
        intro hn
        have h := HD.out
        have hk := HK.out
        have h0 : decs s b pos = [] := by cases b with | zero => rfl | succ b => unfold decs; rw [if_neg hn]
        rw [h0] at h
        have := congrArg List.length h
        simp at this
        omega
      obtain ⟨b, rfl⟩ : ∃ b', b = b' + 1 := ⟨b - 1, by have := HS.out; omega⟩
      have hd : (runesOf s)[k - m]? = some (Utf8.decode s pos).1 ∧ decs s b (pos + (Utf8.decode s pos).2) = (runesOf s).drop (k - m + 1) := by
        have h := HD.out
        unfold decs at h
        rw [if_pos hp] at h
        refine ⟨?_, ?_⟩
        · have := congrArg (·[0]?) h
          simpa using this.symm
        · have := congrArg (·.drop 1) h
          simpa using this
      have HD2 := Lib.hid hd
      have hwd := decode_wide s pos hp
      clear hd
      have hnx : ∀ ty, (Instr.next (.pointer (some ⟨w1.heap.size, 0, none⟩)) true ty).run Tryz.prog (w1.iter s pos) = _ := fun ty => run_next_any w1 s pos ty hp
      by_cases h0 : m = 0
      · have H0 := Lib.hid h0
        have l0 : (m : Int) < 1 := by omega
        clear h0
        go_wp2_with fail
        go_ret
        refine ⟨⟨_, rfl, Or.inl ⟨k, HK.out, by rw [← HL.out]; exact HJ.out, ?_⟩⟩, HB1.out.alloc HB1.out.size _⟩
        have h := HD2.out.1
        rw [H0.out, Nat.sub_zero, List.getElem?_eq_getElem HK.out] at h
        rw [Option.some.inj h]
        rfl
      · go_wp2_with fail
        go_roundw
        case rel =>
          exact ⟨pos + (Utf8.decode s pos).2, b, m - 1, rfl, by congr 1; omega, by omega, Lib.hid (by have := HS.out; omega), Lib.hid (by rw [HD2.out.2]; congr 1; omega)⟩
        case measure => simp; omega
  · by_cases hneg : j < 0
    · go_wp2_with fail
      go_ret
      refine ⟨⟨_, rfl, Or.inr ⟨?_, rfl⟩⟩, HB1.out⟩
      rw [← HL.out]
      have := hj.out
      unfold ClampTo at this
      omega
    · have hge : (L : Int) ≤ j := by omega
      go_wp2_with fail
      go_ret
      refine ⟨⟨_, rfl, Or.inr ⟨?_, rfl⟩⟩, HB1.out⟩
      rw [← HL.out]
      have := hj.out
      unfold ClampTo at this
      omega
/-- funcIndex2 on a string and an int. -/
theorem index2_str (u : Value) (s : ByteArray) (i : Int) (w : World) (hs : (s.size : Int) ≤ 1048576) (hi : -9223372036854775808 ≤ i ∧ i ≤ 9223372036854775807) :
    Calls Tryz.prog 26 #[u, .iface 9 (.string s), .iface 3 (.int .i64 i)] w (IdxGives s i w) := by
  have H := Lib.hid (fun W => indexString s i W hs hi)
  clear hs hi
  go_enter Tryz.func26, Tryz.ntmps26
  go_wp2_with fail
  refine (toInt_int i _).mono ?_
  rintro e w' ⟨rfl, rfl⟩
  go_wp2_with fail
  refine (H.out _).mono ?_
  rintro e w1 ⟨⟨v, rfl, hv⟩, hb⟩
  have HV := Lib.hid hv
  have HB := Lib.hid hb
  clear hv hb
  go_wp2_with fail
  go_ret
  exact ⟨⟨v, rfl, HV.out⟩, HB.out⟩
end Go.Proofs.YtlhgfijpagfhpabGreatDoor
