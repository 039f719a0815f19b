/- sortItems on two arrays of ints of one length. -/
import Derived.Test.YtlhgfijpagfhpaaGreatDoorCv46
import Derived.Test.YtlhgfijpagfhpaaGreatDoorLess46
import Derived.Test.YtlhgfijpagfhpaaGreatDoorSortT
import Derived.BigRegion
namespace Go.Proofs.YtlhgfijpagfhpaaGreatDoor
open Go.Shelf Go.RowKit Go.Lib Go.Sort
set_option maxRecDepth 100000
set_option maxHeartbeats 4000000
theorem mkItems (n : Nat) (h : n ≤ 17592186044416) (w : World) : (Instr.makeSlice 43 (.int .i64 (n : Int)) (.int .i64 (n : Int))).run Tryz.prog w = .ok (.slice (some ⟨w.heap.size, 0, none⟩) n n) (w.alloc (.cells (madeCells #[.pointer none] n) 46)) :=
  run_make_row' 43 46 (.pointer none) 8 Tryz.underlying43 (by kernel_rfl) rfl .i64 .i64 n (by omega) (by omega) w
/-- The row of items, k of them laid from block p on. -/
def fillP (p k i : Nat) : Value := if i < k then .pointer (some ⟨p + i, 0, none⟩) else .pointer none
/-- The items laid: values and keys. -/
def ItemsAt (W : World) (p k : Nat) (vs ks : List Int) : Prop :=
  ∀ i, i < k → W.cell? ⟨p + i, 0, none⟩ = some (.iface 3 (.int .i64 (vs.getD i 0))) ∧ W.cell? ⟨p + i, 1, none⟩ = some (.iface 3 (.int .i64 (ks.getD i 0)))
theorem SW.below {enc : Nat → Value} {w0 W : World} {blk off B : Nat} {d : Array Nat} (h : SW enc w0 blk off d W) (h1 : B ≤ blk) (h2 : B ≤ w0.heap.size) : Below B w0 W := by
  have hle := h.le
  obtain ⟨m, os, rfl⟩ := h
  refine ⟨rfl, rfl, rfl, hle, fun k hk => ?_⟩
  show ((putRow enc (Sort.ahead w0 m) blk off d).heap ++ os)[k]? = _
  have hs : (putRow enc (Sort.ahead w0 m) blk off d).heap.size = w0.heap.size := size_putRow _ _ _ _ _
  rw [Array.getElem?_append_left (by omega)]
  unfold putRow mapBlock
  simp only [Array.getElem?_modify]
  rw [if_neg (by omega)]
  rfl
theorem set_other (w : World) (b o b' o' : Nat) (v : Value) (h : b' ≠ b) : (w.setCell ⟨b, o, none⟩ v).cell? ⟨b', o', none⟩ = w.cell? ⟨b', o', none⟩ := by
  apply World.cell?_setCell_other
  intro e
  exact h (congrArg Addr.block e).symm
/-- Item x of n, laid from block p on. -/
def encP (p n x : Nat) : Value := .pointer (some ⟨p + (if x < n then x else 0), 0, none⟩)
def keyP (ks : List Int) (n x : Nat) : Int := ks.getD (if x < n then x else 0) 0
/-- What sortItems hands back: the items in the stable order. -/
def SortedItems (W : World) (vs ks : List Int) (e : Ending) (w' : World) : Prop :=
  ∃ (p : Nat) (t : Nat → Nat), e = .returned (.tuple #[.slice (some ⟨W.heap.size, 0, none⟩) vs.length vs.length, .nilIface]) ∧ Below W.heap.size W w' ∧ Re 0 vs.length id t ∧ Srt (keyP ks vs.length) t 0 vs.length ∧
    (∀ i, i < vs.length → w'.cell? ⟨W.heap.size, i, none⟩ = some (.pointer (some ⟨p + t i, 0, none⟩))) ∧ ItemsAt w' p vs.length vs ks
theorem lessP (cb rb c n p : Nat) (vs ks : List Int) (W : World) (hn : n < 4611686018427387904) (hb : rb < W.heap.size) (hne : cb ≠ rb) (hp : rb < p)
    (hs : W.cell? ⟨cb, 0, none⟩ = some (.slice (some ⟨rb, 0, none⟩) n c)) (hI : ItemsAt W p n vs ks) (hH : Holds (encP p n) W rb 0 (arr n id)) :
    LessReads Tryz.prog 30 #[.pointer (some ⟨cb, 0, none⟩)] (encP p n) (ltk (keyP ks n)) rb 0 n W := by
  intro m os dk hd i j hi hj
  have hw : SW (encP p n) W rb 0 dk (sortWorld (encP p n) W rb 0 m dk os) := ⟨m, os, rfl⟩
  have hH2 := hw.holds hb hH (by rw [arr_size, hd])
  have ki := (hI (if dk[i]! < n then dk[i]! else 0) (by split <;> omega)).2
  have kj := (hI (if dk[j]! < n then dk[j]! else 0) (by split <;> omega)).2
  have a1 := (hH2 i (by omega)).1
  have a2 := (hH2 j (by omega)).1
  rw [Nat.zero_add] at a1 a2
  exact lessItems cb rb c n i j _ _ _ _ _ hn hi hj (by rw [SW.cell hw (lt_of_cell' hs) hne]; exact hs) a1 a2
    (by rw [SW.cell hw (lt_of_cell' ki) (Nat.ne_of_gt (Nat.lt_of_lt_of_le hp (Nat.le_add_right _ _)))]; exact ki) (by rw [SW.cell hw (lt_of_cell' kj) (Nat.ne_of_gt (Nat.lt_of_lt_of_le hp (Nat.le_add_right _ _)))]; exact kj)
theorem items_loop (name : ByteArray) (vs ks : List Int) (v x : Value) (W : World) (hv : Anys W v vs) (hx : Anys W x ks) (hl : vs.length = ks.length) (hn : (vs.length : Int) ≤ 1048576) :
    Calls Tryz.prog 27 #[.string name, .iface 35 v, .iface 35 x] W (SortedItems W vs ks) := by
  obtain ⟨b, o, cap, rfl, hc⟩ := hv
  obtain ⟨b2, o2, cap2, rfl, hc2⟩ := hx
  have HC := Lib.hid hc
  have HC2 := Lib.hid hc2
  have t0 : ((vs.length : Int) != ks.length) = false := by simp; omega
  have hmk := mkItems vs.length (by omega)
  have HL := Lib.hid hl
  have l1 : vs.length ≤ ks.length := by omega
  have l2 : ks.length ≤ vs.length := by omega
  clear hc hc2 hl
  go_enter Tryz.func27, Tryz.ntmps27
  go_wp2_with fail
  have HR := Lib.hid ((World.rowIs_made W (.pointer none) vs.length 46))
  go_loopw [66] (fun i wr => ∃ k : Nat, k ≤ vs.length ∧ i = .int .i64 k ∧ Hid (Below W.heap.size W wr) ∧ Hid (wr.rowIs W.heap.size 46 vs.length (fillP (W.heap.size + 2) k)) ∧ Hid (wr.heap.size = W.heap.size + 2 + k) ∧
    Hid (ItemsAt wr (W.heap.size + 2) k vs ks) ∧ wr.cell? ⟨W.heap.size + 1, 0, none⟩ = some (.slice (some ⟨W.heap.size, 0, none⟩) vs.length vs.length)) (fun i _ => vs.length - (intOf i).toNat)
  case atStart =>
    exact ⟨0, Nat.zero_le _, rfl, Lib.hid (((Below.refl _ _).alloc (Nat.le_refl _) _).alloc (by simp) _), Lib.hid ((HR.out.alloc _).congr fun i _ => by unfold fillP; rw [if_neg (by omega)]), Lib.hid (by simp), Lib.hid (fun i hi => by omega), by simp⟩
  case round =>
    obtain ⟨k, hk, rfl, HB, HW, HS, HI, c1⟩ := hrel
    clear HR hmk
    by_cases hlt : k < vs.length
    · have cv : wr.cell? ⟨b, o + k, none⟩ = some (.iface 3 (.int .i64 vs[k])) := by
        have h := HC.out k hlt
        rw [(HB.out.cell (p := ⟨b, o + k, none⟩) (lt_of_cell' h)), h]
      have cx : wr.cell? ⟨b2, o2 + k, none⟩ = some (.iface 3 (.int .i64 ks[k])) := by
        have h := HC2.out k (by omega)
        rw [(HB.out.cell (p := ⟨b2, o2 + k, none⟩) (lt_of_cell' h)), h]
      have h1 : wr.cell? ⟨W.heap.size, k, none⟩ = some (fillP (W.heap.size + 2) k k) := HW.out.cell hlt
      have h2 : wr.frozen? ⟨W.heap.size, k, none⟩ = false := HW.out.frozen k
      have kg : (0 : Int) ≤ k := by omega
      have kx : k < ks.length := by omega
      have c1' : ∀ O : Obj, (wr.alloc O).cell? ⟨W.heap.size + 1, 0, none⟩ = some (.slice (some ⟨W.heap.size, 0, none⟩) vs.length vs.length) := fun O => by
        rw [World.cell?_alloc_past _ _ _ (lt_of_cell' c1)]; exact c1
      have cx' : ∀ O : Obj, (wr.alloc O).cell? ⟨b2, o2 + k, none⟩ = some (.iface 3 (.int .i64 ks[k])) := fun O => by
        rw [World.cell?_alloc_past _ _ _ (lt_of_cell' cx)]; exact cx
      have h1' : ∀ O : Obj, (wr.alloc O).cell? ⟨W.heap.size, k, none⟩ = some (fillP (W.heap.size + 2) k k) := fun O => by
        rw [World.cell?_alloc_past _ _ _ (lt_of_cell' h1)]; exact h1
      have h2' : ∀ O : Obj, (wr.alloc O).frozen? ⟨W.heap.size, k, none⟩ = false := fun O => by
        rw [World.frozen?_alloc_past _ _ _ (lt_of_cell' h1)]; exact h2
      go_wp2_with fail
      go_region
      go_wp2_with fail
      go_roundw
      case rel =>
        refine ⟨k + 1, by omega, by go_num, Lib.hid (Below.drew (Below.setCell (HB.out.alloc HB.out.size _) (Nat.le_refl _) _)), Lib.hid ((((HW.out.alloc _).set k _).drew).congr fun i hi => ?_), Lib.hid ?_, Lib.hid (fun i hi => ?_), ?_⟩
        · have hs := HS.out
          unfold fillP
          by_cases e : i = k
          · rw [if_pos e, if_pos (by omega), hs, e]
          · rw [if_neg e]
            by_cases e2 : i < k
            · rw [if_pos e2, if_pos (by omega)]
            · rw [if_neg e2, if_neg (by omega)]
        · have hs := HS.out
          simp [hs]; omega
        · have hs := HS.out
          have hI := HI.out
          show World.cell? (World.setCell _ _ _) _ = _ ∧ World.cell? (World.setCell _ _ _) _ = _
          rw [set_other _ _ _ _ _ _ (by omega), set_other _ _ _ _ _ _ (by omega)]
          by_cases e : i = k
          · rw [e, ← hs]
            simp [List.getD, hlt, kx]
          · rw [World.cell?_alloc_past _ _ _ (by omega), World.cell?_alloc_past _ _ _ (by omega)]
            exact hI i (by omega)
        · show World.cell? (World.setCell _ _ _) _ = _
          rw [set_other _ _ _ _ _ _ (by omega)]
          exact c1' _
      case measure => simp [intOf]; omega
    · have hkn : k = vs.length := by omega
      subst hkn
      have hle := HB.out.size
      have hs := HS.out
      have hH : Holds (encP (W.heap.size + 2) vs.length) wr W.heap.size 0 (arr vs.length id) := fun i hi => by
        rw [arr_size] at hi
        rw [arr_get _ hi, Nat.zero_add]
        refine ⟨?_, HW.out.frozen i⟩
        rw [HW.out.cell hi]
        unfold fillP encP
        rw [if_pos hi, id, if_pos hi]
      have hsort := sliceStable (enc := encP (W.heap.size + 2) vs.length) (key := keyP ks vs.length) (fun _ => rfl) 30 #[.pointer (some ⟨W.heap.size + 1, 0, none⟩)] (enters_of Tryz.func30 (by kernel_rfl) rfl) (by omega) vs.length wr
        (lessP (W.heap.size + 1) W.heap.size vs.length vs.length (W.heap.size + 2) vs ks wr (by omega) (by omega) (by omega) (by omega) c1 HI.out hH) hH (by omega)
      have HO := Lib.hid hsort
      have HH := Lib.hid hH
      clear hsort hH hle hs
      go_wp2_with fail
      refine HO.out.mono ?_
      rintro e w2 ⟨rfl, t, hw, hre, hst⟩
      have hc2 : w2.cell? ⟨W.heap.size + 1, 0, none⟩ = some (.slice (some ⟨W.heap.size, 0, none⟩) vs.length vs.length) := by
        rw [SW.cell hw (lt_of_cell' c1) (by show W.heap.size + 1 ≠ W.heap.size; omega)]; exact c1
      have HF := Lib.hid (And.intro hw (And.intro hre hst))
      clear hw hre hst
      go_wp2_with fail
      go_ret2
      have hI := HI.out
      refine ⟨W.heap.size + 2, t, rfl, HB.out.trans (SW.below HF.out.1 (Nat.le_refl _) HB.out.size), HF.out.2.1, HF.out.2.2, fun i hi => ?_, fun i hi => ?_⟩
      · have a := (HF.out.1.holds (Nat.lt_of_lt_of_le (Nat.lt_succ_self _) (by have := HS.out; omega)) HH.out (by rw [arr_size, arr_size]) i (by rw [arr_size]; exact hi)).1
        rw [Nat.zero_add, arr_get _ hi] at a
        rw [a]
        have ht := HF.out.2.1.all (p := fun x => x < vs.length) (fun j _ h => h) i (Nat.zero_le _) hi
        unfold encP
        rw [if_pos ht]
      · have h := hI i hi
        rw [SW.cell HF.out.1 (lt_of_cell' h.1) (by show W.heap.size + 2 + i ≠ W.heap.size; omega), SW.cell HF.out.1 (lt_of_cell' h.2) (by show W.heap.size + 2 + i ≠ W.heap.size; omega)]
        exact h
end Go.Proofs.YtlhgfijpagfhpaaGreatDoor
