/- stable_func and SliceStable, any length. -/
import Derived.Test.YtlhgfijpagfhpaaGreatDoorSortZ
import Derived.Test.YtlhgfijpagfhpaaGreatDoorSortS
import Derived.Shelf.Lay
import Derived.Ground.GgtProg
namespace Go.Proofs.YtlhgfijpagfhpaaGreatDoor
open Go.Shelf Go.RowKit Go.Lib Go.Sort
set_option maxRecDepth 100000
set_option maxHeartbeats 8000000
shelf_lay LaysGt.n8 Ggt 8 at Tryz as Tryz.sl8
variable {enc : Nat → Value} {W : World} {blk off n : Nat} {g sf : Nat} {lb sb : Array Value} {key : Nat → Int}
theorem insertion (S : Sorts Tryz.prog g lb sf sb enc key blk off n W) {s : Nat → Nat} (hH : Holds enc W blk off (arr n s)) {x y : Int} (a b : Nat) (hx : x = a) (hy : y = b) (hab : a ≤ b) (hb : b ≤ n) (hs : ∀ i j, a ≤ i → i < j → j < b → s i < s j) :
    Calls Tryz.prog 57 #[.agg #[.func (.func g) #[] lb, .func (.func sf) #[] sb], .int .i64 x, .int .i64 y] W (Merged enc key W blk off n s a b) := by
  subst hx; subst hy
  have LI : LaysGg.n26 Tryz.prog Tryz.sl8_ren.viaGt := ({ Tryz.sl8 with } : LaysGt.n29 Tryz.prog Tryz.sl8_ren).elder
  have h := Any.insertionSort_func_w LI enc (ltk key) g lb sf sb blk off a b (arr n s) W S.eg (by rw [arr_size]; exact S.less) (by rw [arr_size]; exact S.swap) hH S.blk hab (by rw [arr_size]; exact hb) (by rw [arr_size]; exact S.small)
  obtain ⟨t, e, hr, ht⟩ := insertion_arr key s hab hb hs
  rw [e] at h
  exact (show Calls Tryz.prog 57 _ _ _ from h).mono fun _ _ ⟨h1, m, os, h2⟩ => ⟨h1, t, ⟨m, os, h2⟩, hr, ht⟩
theorem stable (S : Sorts Tryz.prog g lb sf sb enc key blk off n W) (hH : Holds enc W blk off (arr n id)) (hn : n ≤ 1099511627776) :
    Calls Tryz.prog 35 #[.agg #[.func (.func g) #[] lb, .func (.func sf) #[] sb], .int .i64 n] W (Merged enc key W blk off n id 0 n) := by
  have B := Lib.hid (S.box hH 76)
  have eg := S.eg
  clear S hH
  go_enter Tryz.func35, Tryz.ntmps35
  go_wp2
  go_loopw [5, 6] (fun vi vj wr => ∃ (q : Nat) (t : Nat → Nat), vi = .int .i64 ((20 * q : Nat) : Int) ∧ vj = .int .i64 ((20 * q + 20 : Nat) : Int) ∧ 20 * q ≤ n ∧ Hid (Ini key n (20 * q) t) ∧
    Hid (SW enc (W.alloc (.cells #[.func (.func g) #[] lb, .func (.func sf) #[] sb] 76)) blk off (arr n t) wr) ∧
    wr.cell? ⟨W.heap.size, 0, none⟩ = some (.func (.func g) #[] lb) ∧ wr.cell? ⟨W.heap.size, 1, none⟩ = some (.func (.func sf) #[] sb)) (fun vi vj _ => n + 20 - (intOf vi).toNat)
  case atStart => exact ⟨0, id, rfl, rfl, by omega, Lib.hid (Ini.start key n), Lib.hid B.out.start, B.out.c0 _ _ B.out.start, B.out.c1 _ _ B.out.start⟩
  case round =>
    obtain ⟨q, t, rfl, rfl, hq, hI, hw, c0, c1⟩ := hrel
    by_cases hl : 20 * q + 20 ≤ n
    · go_wp2_with fail
      refine (insertion (B.out.S.on hw.out) (B.out.S.holds B.out.H hw.out) (20 * q) (20 * q + 20) (by omega) (by omega) (by omega) hl (fun i j h1 h2 h3 => by rw [hI.out.r i h1, hI.out.r j (by omega)]; exact h2)).mono ?_
      rintro e w2 ⟨rfl, u, hs, hu⟩
      have hu := Lib.hid hu
      have hw2 := Lib.hid (B.out.call hw.out hs)
      clear hs
      go_wp2_with fail
      go_roundw
      case rel =>
        exact ⟨q + 1, u, by congr 1, by congr 1, by omega, Lib.hid (hI.out.step (by omega) (by omega) hl hu.out.1 hu.out.2), hw2, B.out.c0 _ _ hw2.out, B.out.c1 _ _ hw2.out⟩
      case measure => simp [intOf]; omega
    · go_wp2_with fail
      refine (insertion (B.out.S.on hw.out) (B.out.S.holds B.out.H hw.out) (20 * q) n (by omega) rfl hq (Nat.le_refl _) (fun i j h1 h2 h3 => by rw [hI.out.r i h1, hI.out.r j (by omega)]; exact h2)).mono ?_
      rintro e w2 ⟨rfl, u, hs, hu⟩
      have hI2 := Lib.hid (hI.out.step hq (by omega) (Nat.le_refl _) hu.1 hu.2)
      have hw2 := Lib.hid (B.out.call hw.out hs)
      clear hs hu hI hw c0 c1
      have c0 := B.out.c0 _ _ hw2.out
      have c1 := B.out.c1 _ _ hw2.out
      go_wp2_with fail
      have hI3 := Lib.hid (And.intro hI2.out.re (hI2.out.blk (Nat.le_refl n)))
      clear hI2 hq hl
      go_loopw [4] (fun vi wr => ∃ (d : Nat) (t : Nat → Nat), vi = .int .i64 d ∧ 0 < d ∧ d ≤ 2199023255552 ∧ Hid (Re 0 n id t ∧ Blk key n d t) ∧
        Hid (SW enc (W.alloc (.cells #[.func (.func g) #[] lb, .func (.func sf) #[] sb] 76)) blk off (arr n t) wr) ∧
        wr.cell? ⟨W.heap.size, 0, none⟩ = some (.func (.func g) #[] lb) ∧ wr.cell? ⟨W.heap.size, 1, none⟩ = some (.func (.func sf) #[] sb)) (fun vi _ => n - (intOf vi).toNat)
      case atStart => exact ⟨20, u, rfl, by omega, by omega, hI3, hw2, c0, c1⟩
      case round =>
        clear hI3 hw2 c0 c1
        obtain ⟨d, t, rfl, hd, hd2, hI, hw, c0, c1⟩ := hrel
        by_cases hl : d < n
        · go_wp2_with fail
          go_loopw [5, 6] (fun vi vj wr => ∃ (A : Nat) (t : Nat → Nat), vi = .int .i64 A ∧ vj = .int .i64 ((A + 2 * d : Nat) : Int) ∧ A ≤ n ∧ Hid (MidA key n d A t) ∧
            Hid (SW enc (W.alloc (.cells #[.func (.func g) #[] lb, .func (.func sf) #[] sb] 76)) blk off (arr n t) wr) ∧
            wr.cell? ⟨W.heap.size, 0, none⟩ = some (.func (.func g) #[] lb) ∧ wr.cell? ⟨W.heap.size, 1, none⟩ = some (.func (.func sf) #[] sb)) (fun vi vj _ => n + 1 - (intOf vi).toNat)
          case atStart => exact ⟨0, t, rfl, by congr 1; omega, by omega, Lib.hid (MidA.start hI.out.1 hI.out.2), hw, c0, c1⟩
          case round =>
            clear hI hw c0 c1
            obtain ⟨A, t, rfl, rfl, hA, hI, hw, c0, c1⟩ := hrel
            by_cases hb : A + 2 * d ≤ n
            · go_wp2_with fail
              refine (merge_all _ _ t _ _ _ A (A + d) (A + 2 * d) rfl (by omega) (by omega) (Nat.lt_succ_self _) (B.out.S.on hw.out) (B.out.S.holds B.out.H hw.out) (by omega) (by omega) hb (hI.out.l hd (by omega) (by omega)) (hI.out.r hd (by omega) hb) (hI.out.lr hd (by omega) hb)).mono ?_
              rintro e w2 ⟨rfl, u, hs, hu⟩
              have hu := Lib.hid hu
              have hw2 := Lib.hid (B.out.call hw.out hs)
              clear hs
              go_wp2_with fail
              go_roundw
              case rel =>
                exact ⟨A + 2 * d, u, by congr 1, by congr 1, hb, Lib.hid (hI.out.step hd hb hu.out.1 hu.out.2), hw2, B.out.c0 _ _ hw2.out, B.out.c1 _ _ hw2.out⟩
              case measure => simp [intOf]; omega
            · by_cases hm : A + d < n
              · go_wp2_with fail
                refine (merge_all _ _ t _ _ _ A (A + d) n rfl (by omega) rfl (Nat.lt_succ_self _) (B.out.S.on hw.out) (B.out.S.holds B.out.H hw.out) (by omega) hm (Nat.le_refl _) (hI.out.l hd (by omega) (by omega)) (hI.out.r hd (by omega) (Nat.le_refl _)) (hI.out.lr hd (by omega) (Nat.le_refl _))).mono ?_
                rintro e w2 ⟨rfl, u, hs, hu⟩
                have hu := Lib.hid (hI.out.last hd hA (by omega) hu.1 hu.2)
                have hw2 := Lib.hid (B.out.call hw.out hs)
                clear hs
                go_wp2_with fail
                go_roundw
                case rel =>
                  exact ⟨2 * d, u, by congr 1; omega, by omega, by omega, hu, hw2, B.out.c0 _ _ hw2.out, B.out.c1 _ _ hw2.out⟩
                case measure => simp [intOf]; omega
              · have hu := Lib.hid (hI.out.last hd hA (by omega) (Re.refl _ _ t) (hI.out.l hd (by omega) (Nat.le_refl _)))
                go_wp2_with fail
                go_roundw
                case rel =>
                  exact ⟨2 * d, t, by congr 1; omega, by omega, by omega, hu, hw, c0, c1⟩
                case measure => simp [intOf]; omega
        · go_wp2_with fail
          go_end0
          exact ⟨rfl, t, B.out.back _ _ hw.out, hI.out.1, hI.out.2.all (by omega)⟩
theorem SW.ofGrow {w0 W : World} {d : Array Nat} {os : Array Obj} (hblk : blk < w0.heap.size) (h : SW enc (Sort.grow w0 os) blk off d W) : SW enc w0 blk off d W := by
  obtain ⟨m, os', rfl⟩ := h
  exact ⟨m, _, by unfold sortWorld; rw [ahead_grow, putRow_grow enc (Sort.ahead w0 m) _ blk off _ hblk, grow_grow]⟩
noncomputable def siT : TypeInfo := (Tryz.prog.info? 43).get (by kernel_rfl)
noncomputable def siE : TypeInfo := (Tryz.prog.info? 46).get (by kernel_rfl)
theorem siK (n : Nat) (h2 : 2 ≤ n) : Lib.swapperK n siE 22 = 3 := by
  have a : siE.hasPointers = true := by kernel_rfl
  have b : siE.bytes = 8 := by kernel_rfl
  have c : (n == 0) = false := by simp; omega
  have d : (n == 1) = false := by simp; omega
  simp [Lib.swapperK, a, b, c, d]
/-- sort.SliceStable of a row of pointers to items: the row rearranged, stably by key. -/
theorem sliceStable (h1 : ∀ x, (enc x).oneCell' = true) (g : Nat) (lb : Array Value) (eg : ∀ args w, (callFunc g args).run Tryz.prog w = .ok (.enter g args) w) (hn : n ≤ 1099511627776) (c : Nat) (w : World)
    (hless : LessReads Tryz.prog g lb enc (ltk key) blk off n w) (hH : Holds enc w blk off (arr n id)) (hblk : blk < w.heap.size) :
    Calls Tryz.prog 29 #[.iface 43 (.slice (some ⟨blk, off, none⟩) n c), .func (.func g) #[] lb] w (Merged enc key w blk off n id 0 n) := by
  by_cases h2 : 2 ≤ n
  · refine Calls.mono (Any.sort_SliceStable_of_stable Tryz.sl8 43 46 siT siE (by kernel_rfl) (by kernel_rfl) (by kernel_rfl) (by kernel_rfl) 22 (fun _ => by kernel_rfl) _ n c (by omega) 50 (by rw [siK _ h2]; kernel_rfl) (.func g) #[] lb w (fun w' => ∃ t, SW enc w blk off (arr n t) w' ∧ Re 0 n id t ∧ Srt key t 0 n) ?_) (fun _ _ h => h)
    have hB : sliceBound Tryz.prog 46 siE 22 (some ⟨blk, off, none⟩) n c = #[.slice (some ⟨blk, off, none⟩) n c, typeHandle Tryz.prog 46] := by
      unfold sliceBound; rw [if_neg (swapperK_gt _ _ _ h2)]
    have hW : ∃ os0, stableWorld Tryz.prog Tryz.sl8_ren 43 (some ⟨blk, off, none⟩) n c w = Sort.grow w os0 := ⟨_, by unfold stableWorld; rw [alloc_eq_grow, alloc_eq_grow, grow_grow]⟩
    obtain ⟨os0, hW⟩ := hW
    rw [hB, hW]
    have S : Sorts Tryz.prog g lb 50 #[.slice (some ⟨blk, off, none⟩) n c, typeHandle Tryz.prog 46] enc key blk off n (Sort.grow w os0) :=
      ⟨eg, hless.grow hblk os0, swapSwaps_of_literal true 50 (fun args W => run_callFunc_extern Tryz.func50 (by kernel_rfl) (by kernel_rfl) (by kernel_rfl) (e := Extern.ReflectliteSwapper.swap true) (by kernel_rfl) args W) 46 siE (by kernel_rfl) (by kernel_rfl) (fun _ => by kernel_rfl) enc h1 blk off n c, by rw [size_grow]; omega, by omega⟩
    refine Calls.mono (show Calls Tryz.prog 35 _ _ _ from stable S (holds_grow enc w _ blk off _ hblk hH) hn) ?_
    rintro e w' ⟨rfl, t, hs, hr, ht⟩
    exact ⟨rfl, t, SW.ofGrow hblk hs, hr, ht⟩
  · have hk : ∀ f, Tryz.prog.funcs.findIdx? (·.name == "internal/reflectlite" ++ ".Swapper$" ++ toString (Lib.swapperK n siE 22)) = some f → Calls Tryz.prog 29 #[.iface 43 (.slice (some ⟨blk, off, none⟩) n c), .func (.func g) #[] lb] w (Merged enc key w blk off n id 0 n) := fun f hf => by
      refine Calls.mono (Any.sort_SliceStable_tiny Tryz.sl8 43 46 siT siE (by kernel_rfl) (by kernel_rfl) (by kernel_rfl) (by kernel_rfl) 22 (fun _ => by kernel_rfl) _ n c (by omega) f hf (.func g) #[] lb w) ?_
      rintro e w' ⟨rfl, os, rfl⟩
      refine ⟨rfl, id, ⟨0, os, ?_⟩, Re.refl _ _ _, fun i j _ h3 h4 => by omega⟩
      unfold sortWorld
      rw [show Sort.ahead w 0 = w from rfl, putRow_self enc w blk off _ hH]
    have h01 : n = 0 ∨ n = 1 := by omega
    rcases h01 with rfl | rfl
    · exact hk 48 (by kernel_rfl)
    · exact hk 49 (by kernel_rfl)
end Go.Proofs.YtlhgfijpagfhpaaGreatDoor
