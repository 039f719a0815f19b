/- funcGetpath on an array of arrays of ints. -/
import Derived.Test.YtfgepnbfideliaaGreatDoorGpl42
import Derived.Test.YtfgepnbfideliaaGreatDoorInts
namespace Go.Proofs.YtfgepnbfideliaaGreatDoor
open Go.RowKit
set_option maxRecDepth 100000
set_option maxHeartbeats 8000000
/-- Row r of the array, its elements in block bs r. -/
def rowV (m : List (List Int)) (bs : Nat → Nat) (r : Nat) : Value := .iface 61 (.slice (some ⟨bs r, 0, none⟩) (m.getD r []).length (m.getD r []).length)
def intV (n : Int) : Value := .iface 3 (.int .i64 n)
/-- The array of arrays stands in block B, its rows in the blocks bs. -/
structure MatAt (w : World) (B : Nat) (bs : Nat → Nat) (m : List (List Int)) : Prop where
  top : ∀ r, r < m.length → w.cell? ⟨B, r, none⟩ = some (rowV m bs r)
  cells : ∀ r, r < m.length → ∀ j, j < (m.getD r []).length → w.cell? ⟨bs r, j, none⟩ = some (intV ((m.getD r []).getD j 0))
  small : ∀ r, r < m.length → ((m.getD r []).length : Int) ≤ 1048576
def gV (m : List (List Int)) (B : Nat) (bs : Nat → Nat) : G → Value
  | .null => .nilIface
  | .mat => .iface 61 (.slice (some ⟨B, 0, none⟩) m.length m.length)
  | .row r => rowV m bs r
  | .int n => intV n
  | .err => .nilIface
def G.ok (m : List (List Int)) : G → Prop
  | .row r => r < m.length
  | .int n => -9223372036854775808 ≤ n ∧ n ≤ 9223372036854775807
  | .err => False
  | _ => True
/-- A step as a jq value. -/
def stepV (key : ByteArray) (s : Bool × Int) : Value := if s.1 then .iface 9 (.string key) else intV s.2
theorem index2_null (u : Value) (key : ByteArray) (s : Bool × Int) (w : World) :
    Calls Tryz.prog 34 #[u, .nilIface, stepV key s] w fun e w' => e = .returned .nilIface ∧ w = w' := by
  unfold stepV intV
  cases s.1
  · rw [if_neg (by decide)]
    go_enter Tryz.func34, Tryz.ntmps34
    go_wp2_with fail
    refine (toInt_int s.2 _).mono ?_
    rintro e w' ⟨rfl, rfl⟩
    go_wp2_with fail
    go_ret
    exact ⟨rfl, rfl⟩
  · rw [if_pos rfl]
    go_enter Tryz.func34, Tryz.ntmps34
    go_wp2_with fail
    go_ret
    exact ⟨rfl, rfl⟩
/-- A key on an array: refused. -/
theorem index2_keyArr (u : Value) (p : Option Addr) (len c : Nat) (key : ByteArray) (w : World) :
    Calls Tryz.prog 34 #[u, .iface 61 (.slice p len c), .iface 9 (.string key)] w fun e w' => (∃ a, e = .returned (.iface 90 (.pointer (some a)))) ∧ Below w.heap.size w w' := by
  go_enter Tryz.func34, Tryz.ntmps34
  go_wp2_with fail
  go_ret
  exact ⟨⟨_, rfl⟩, (Below.refl _ _).alloc (Nat.le_refl _) _⟩
@[go_sem] theorem ta_eoe (W : World) (v : Value) : (Instr.typeAssert (.iface 90 v) 20 66 true).run Tryz.prog W = .ok (.tuple #[.iface 90 v, .bool true]) W := by kernel_rfl
@[go_sem] theorem ta_nil_err (W : World) : (Instr.typeAssert .nilIface 20 66 true).run Tryz.prog W = .ok (.tuple #[.nilIface, .bool false]) W := by kernel_rfl
theorem mm_err (m : TypeId) : Instr.missingMethod #[("Error", m)] #[] = some "Error" := by
  simp [Instr.missingMethod, Instr.least]
@[go_sem] theorem ta_int_err (W : World) (v : Value) : (Instr.typeAssert (.iface 3 v) 20 66 true).run Tryz.prog W = .ok (.tuple #[.nilIface, .bool false]) W := by
  simp [Instr.typeAssert, go_sem, Tryz.t3, mm_err]
@[go_sem] theorem ta_arr_err (W : World) (v : Value) : (Instr.typeAssert (.iface 61 v) 20 66 true).run Tryz.prog W = .ok (.tuple #[.nilIface, .bool false]) W := by
  simp [Instr.typeAssert, go_sem, Tryz.t61, mm_err]
@[go_sem] theorem ta_wrap_err (W : World) (v : Value) : (Instr.typeAssert (.iface 113 v) 20 66 true).run Tryz.prog W = .ok (.tuple #[.iface 113 v, .bool true]) W := by kernel_rfl
@[go_sem] theorem ta_type_err (W : World) (v : Value) : (Instr.typeAssert (.iface 109 v) 20 66 true).run Tryz.prog W = .ok (.tuple #[.iface 109 v, .bool true]) W := by kernel_rfl
@[go_sem] theorem ta_wrap_int (W : World) (v : Value) : (Instr.typeAssert (.iface 113 v) 20 3 true).run Tryz.prog W = .ok (.tuple #[.int .i64 0, .bool false]) W := by kernel_rfl
@[go_sem] theorem ta_type_int (W : World) (v : Value) : (Instr.typeAssert (.iface 109 v) 20 3 true).run Tryz.prog W = .ok (.tuple #[.int .i64 0, .bool false]) W := by kernel_rfl
/-- What funcGetpath hands back. -/
def GotG (m : List (List Int)) (B : Nat) (bs : Nat → Nat) (g : G) (w : World) (e : Ending) (w' : World) : Prop :=
  ((g = .err ∧ ∃ t a, (t = 113 ∨ t = 109) ∧ e = .returned (.iface t (.pointer (some a)))) ∨ (g.ok m ∧ e = .returned (gV m B bs g))) ∧ Below w.heap.size w w'
theorem pick_bounds {n : Nat} {i : Int} {k : Nat} (h : pickI n i = some k) : k < n := (pickI_some h).1
/-- One step that is not refused. -/
theorem step_go (m : List (List Int)) (B : Nat) (bs : Nat → Nat) (key : ByteArray) (u : Value) (g : G) (s : Bool × Int) (w : World) (hM : MatAt w B bs m) (hm : (m.length : Int) ≤ 1048576) (hs : -9223372036854775808 ≤ s.2 ∧ s.2 ≤ 9223372036854775807)
    (hg : g.ok m) (hn : ∀ n, g ≠ .int n) (hne : stepG m g s ≠ .err) :
    Calls Tryz.prog 34 #[u, gV m B bs g, stepV key s] w fun e w' => e = .returned (gV m B bs (stepG m g s)) ∧ w = w' := by
  obtain ⟨kb, i⟩ := s
  cases g with
  | err => exact hg.elim
  | int n => exact absurd rfl (hn n)
  | null => exact index2_null u key (kb, i) w
  | mat =>
    cases kb with
    | true => exact absurd rfl hne
    | false =>
      have h := index2_int u B 0 m.length m.length (rowV m bs) i w hm hs (fun k hk => by rw [Nat.zero_add]; exact hM.top k hk)
      refine h.mono ?_
      rintro e w' ⟨rfl, rfl⟩
      refine ⟨?_, rfl⟩
      show Ending.returned (match pickI m.length i with | some k => rowV m bs k | none => .nilIface) = Ending.returned (gV m B bs (match pickI m.length i with | some r => .row r | none => .null))
      cases pickI m.length i <;> rfl
  | row r =>
    cases kb with
    | true => exact absurd rfl hne
    | false =>
      have h := index2_int u (bs r) 0 (m.getD r []).length (m.getD r []).length (fun j => intV ((m.getD r []).getD j 0)) i w (hM.small r hg) hs (fun k hk => by rw [Nat.zero_add]; exact hM.cells r hg k hk)
      refine h.mono ?_
      rintro e w' ⟨rfl, rfl⟩
      refine ⟨?_, rfl⟩
      show Ending.returned (match pickI (m.getD r []).length i with | some j => intV ((m.getD r []).getD j 0) | none => .nilIface) = Ending.returned (gV m B bs (match pickI (m.getD r []).length i with | some j => .int ((m.getD r []).getD j 0) | none => .null))
      cases pickI (m.getD r []).length i <;> rfl
end Go.Proofs.YtfgepnbfideliaaGreatDoor
