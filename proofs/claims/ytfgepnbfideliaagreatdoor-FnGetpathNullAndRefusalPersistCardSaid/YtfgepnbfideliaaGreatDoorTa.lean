/- Type assertions of 'any' at the dynamic types of jq values, as rules of the walk: closed facts by the kernel. -/
import Derived.Test.YtfgepnbfideliaaGreatDoorProg
import Derived.WalkKit
import Derived.WalkSpells
import Derived.WalkLawsBesides
import Derived.KernelRfl
import Derived.Deep.QuietTactic
import Derived.BigQuiet
import Derived.Lib.Hide
import Derived.LoopTactic
import Derived.Laws.EntriesVeiled
namespace Go.Proofs.YtfgepnbfideliaaGreatDoor
open Go.RowKit
set_option maxRecDepth 100000
@[go_sem] theorem ta_int_int (W : World) (v : Value) : (Instr.typeAssert (.iface 3 v) 20 3 true).run Tryz.prog W = .ok (.tuple #[v, .bool true]) W := by kernel_rfl
@[go_sem] theorem ta_bool_int (W : World) (v : Value) : (Instr.typeAssert (.iface 4 v) 20 3 true).run Tryz.prog W = .ok (.tuple #[.int .i64 0, .bool false]) W := by kernel_rfl
@[go_sem] theorem ta_str_int (W : World) (v : Value) : (Instr.typeAssert (.iface 9 v) 20 3 true).run Tryz.prog W = .ok (.tuple #[.int .i64 0, .bool false]) W := by kernel_rfl
@[go_sem] theorem ta_flo_int (W : World) (v : Value) : (Instr.typeAssert (.iface 39 v) 20 3 true).run Tryz.prog W = .ok (.tuple #[.int .i64 0, .bool false]) W := by kernel_rfl
@[go_sem] theorem ta_arr_int (W : World) (v : Value) : (Instr.typeAssert (.iface 61 v) 20 3 true).run Tryz.prog W = .ok (.tuple #[.int .i64 0, .bool false]) W := by kernel_rfl
@[go_sem] theorem ta_obj_int (W : World) (v : Value) : (Instr.typeAssert (.iface 63 v) 20 3 true).run Tryz.prog W = .ok (.tuple #[.int .i64 0, .bool false]) W := by kernel_rfl
@[go_sem] theorem ta_big_int (W : World) (v : Value) : (Instr.typeAssert (.iface 67 v) 20 3 true).run Tryz.prog W = .ok (.tuple #[.int .i64 0, .bool false]) W := by kernel_rfl
@[go_sem] theorem ta_nil_int (W : World) : (Instr.typeAssert .nilIface 20 3 true).run Tryz.prog W = .ok (.tuple #[.int .i64 0, .bool false]) W := by kernel_rfl
@[go_sem] theorem ta_int_bool (W : World) (v : Value) : (Instr.typeAssert (.iface 3 v) 20 4 true).run Tryz.prog W = .ok (.tuple #[.bool false, .bool false]) W := by kernel_rfl
@[go_sem] theorem ta_bool_bool (W : World) (v : Value) : (Instr.typeAssert (.iface 4 v) 20 4 true).run Tryz.prog W = .ok (.tuple #[v, .bool true]) W := by kernel_rfl
@[go_sem] theorem ta_str_bool (W : World) (v : Value) : (Instr.typeAssert (.iface 9 v) 20 4 true).run Tryz.prog W = .ok (.tuple #[.bool false, .bool false]) W := by kernel_rfl
@[go_sem] theorem ta_flo_bool (W : World) (v : Value) : (Instr.typeAssert (.iface 39 v) 20 4 true).run Tryz.prog W = .ok (.tuple #[.bool false, .bool false]) W := by kernel_rfl
@[go_sem] theorem ta_arr_bool (W : World) (v : Value) : (Instr.typeAssert (.iface 61 v) 20 4 true).run Tryz.prog W = .ok (.tuple #[.bool false, .bool false]) W := by kernel_rfl
@[go_sem] theorem ta_obj_bool (W : World) (v : Value) : (Instr.typeAssert (.iface 63 v) 20 4 true).run Tryz.prog W = .ok (.tuple #[.bool false, .bool false]) W := by kernel_rfl
@[go_sem] theorem ta_big_bool (W : World) (v : Value) : (Instr.typeAssert (.iface 67 v) 20 4 true).run Tryz.prog W = .ok (.tuple #[.bool false, .bool false]) W := by kernel_rfl
@[go_sem] theorem ta_nil_bool (W : World) : (Instr.typeAssert .nilIface 20 4 true).run Tryz.prog W = .ok (.tuple #[.bool false, .bool false]) W := by kernel_rfl
@[go_sem] theorem ta_int_str (W : World) (v : Value) : (Instr.typeAssert (.iface 3 v) 20 9 true).run Tryz.prog W = .ok (.tuple #[.string ⟨#[]⟩, .bool false]) W := by kernel_rfl
@[go_sem] theorem ta_bool_str (W : World) (v : Value) : (Instr.typeAssert (.iface 4 v) 20 9 true).run Tryz.prog W = .ok (.tuple #[.string ⟨#[]⟩, .bool false]) W := by kernel_rfl
@[go_sem] theorem ta_str_str (W : World) (v : Value) : (Instr.typeAssert (.iface 9 v) 20 9 true).run Tryz.prog W = .ok (.tuple #[v, .bool true]) W := by kernel_rfl
@[go_sem] theorem ta_flo_str (W : World) (v : Value) : (Instr.typeAssert (.iface 39 v) 20 9 true).run Tryz.prog W = .ok (.tuple #[.string ⟨#[]⟩, .bool false]) W := by kernel_rfl
@[go_sem] theorem ta_arr_str (W : World) (v : Value) : (Instr.typeAssert (.iface 61 v) 20 9 true).run Tryz.prog W = .ok (.tuple #[.string ⟨#[]⟩, .bool false]) W := by kernel_rfl
@[go_sem] theorem ta_obj_str (W : World) (v : Value) : (Instr.typeAssert (.iface 63 v) 20 9 true).run Tryz.prog W = .ok (.tuple #[.string ⟨#[]⟩, .bool false]) W := by kernel_rfl
@[go_sem] theorem ta_big_str (W : World) (v : Value) : (Instr.typeAssert (.iface 67 v) 20 9 true).run Tryz.prog W = .ok (.tuple #[.string ⟨#[]⟩, .bool false]) W := by kernel_rfl
@[go_sem] theorem ta_nil_str (W : World) : (Instr.typeAssert .nilIface 20 9 true).run Tryz.prog W = .ok (.tuple #[.string ⟨#[]⟩, .bool false]) W := by kernel_rfl
@[go_sem] theorem ta_int_flo (W : World) (v : Value) : (Instr.typeAssert (.iface 3 v) 20 39 true).run Tryz.prog W = .ok (.tuple #[.float .f64 0, .bool false]) W := by kernel_rfl
@[go_sem] theorem ta_bool_flo (W : World) (v : Value) : (Instr.typeAssert (.iface 4 v) 20 39 true).run Tryz.prog W = .ok (.tuple #[.float .f64 0, .bool false]) W := by kernel_rfl
@[go_sem] theorem ta_str_flo (W : World) (v : Value) : (Instr.typeAssert (.iface 9 v) 20 39 true).run Tryz.prog W = .ok (.tuple #[.float .f64 0, .bool false]) W := by kernel_rfl
@[go_sem] theorem ta_flo_flo (W : World) (v : Value) : (Instr.typeAssert (.iface 39 v) 20 39 true).run Tryz.prog W = .ok (.tuple #[v, .bool true]) W := by kernel_rfl
@[go_sem] theorem ta_arr_flo (W : World) (v : Value) : (Instr.typeAssert (.iface 61 v) 20 39 true).run Tryz.prog W = .ok (.tuple #[.float .f64 0, .bool false]) W := by kernel_rfl
@[go_sem] theorem ta_obj_flo (W : World) (v : Value) : (Instr.typeAssert (.iface 63 v) 20 39 true).run Tryz.prog W = .ok (.tuple #[.float .f64 0, .bool false]) W := by kernel_rfl
@[go_sem] theorem ta_big_flo (W : World) (v : Value) : (Instr.typeAssert (.iface 67 v) 20 39 true).run Tryz.prog W = .ok (.tuple #[.float .f64 0, .bool false]) W := by kernel_rfl
@[go_sem] theorem ta_nil_flo (W : World) : (Instr.typeAssert .nilIface 20 39 true).run Tryz.prog W = .ok (.tuple #[.float .f64 0, .bool false]) W := by kernel_rfl
@[go_sem] theorem ta_int_big (W : World) (v : Value) : (Instr.typeAssert (.iface 3 v) 20 67 true).run Tryz.prog W = .ok (.tuple #[.pointer none, .bool false]) W := by kernel_rfl
@[go_sem] theorem ta_bool_big (W : World) (v : Value) : (Instr.typeAssert (.iface 4 v) 20 67 true).run Tryz.prog W = .ok (.tuple #[.pointer none, .bool false]) W := by kernel_rfl
@[go_sem] theorem ta_str_big (W : World) (v : Value) : (Instr.typeAssert (.iface 9 v) 20 67 true).run Tryz.prog W = .ok (.tuple #[.pointer none, .bool false]) W := by kernel_rfl
@[go_sem] theorem ta_flo_big (W : World) (v : Value) : (Instr.typeAssert (.iface 39 v) 20 67 true).run Tryz.prog W = .ok (.tuple #[.pointer none, .bool false]) W := by kernel_rfl
@[go_sem] theorem ta_arr_big (W : World) (v : Value) : (Instr.typeAssert (.iface 61 v) 20 67 true).run Tryz.prog W = .ok (.tuple #[.pointer none, .bool false]) W := by kernel_rfl
@[go_sem] theorem ta_obj_big (W : World) (v : Value) : (Instr.typeAssert (.iface 63 v) 20 67 true).run Tryz.prog W = .ok (.tuple #[.pointer none, .bool false]) W := by kernel_rfl
@[go_sem] theorem ta_big_big (W : World) (v : Value) : (Instr.typeAssert (.iface 67 v) 20 67 true).run Tryz.prog W = .ok (.tuple #[v, .bool true]) W := by kernel_rfl
@[go_sem] theorem ta_nil_big (W : World) : (Instr.typeAssert .nilIface 20 67 true).run Tryz.prog W = .ok (.tuple #[.pointer none, .bool false]) W := by kernel_rfl
@[go_sem] theorem ta_int_jsn (W : World) (v : Value) : (Instr.typeAssert (.iface 3 v) 20 93 true).run Tryz.prog W = .ok (.tuple #[.string ⟨#[]⟩, .bool false]) W := by kernel_rfl
@[go_sem] theorem ta_bool_jsn (W : World) (v : Value) : (Instr.typeAssert (.iface 4 v) 20 93 true).run Tryz.prog W = .ok (.tuple #[.string ⟨#[]⟩, .bool false]) W := by kernel_rfl
@[go_sem] theorem ta_str_jsn (W : World) (v : Value) : (Instr.typeAssert (.iface 9 v) 20 93 true).run Tryz.prog W = .ok (.tuple #[.string ⟨#[]⟩, .bool false]) W := by kernel_rfl
@[go_sem] theorem ta_flo_jsn (W : World) (v : Value) : (Instr.typeAssert (.iface 39 v) 20 93 true).run Tryz.prog W = .ok (.tuple #[.string ⟨#[]⟩, .bool false]) W := by kernel_rfl
@[go_sem] theorem ta_arr_jsn (W : World) (v : Value) : (Instr.typeAssert (.iface 61 v) 20 93 true).run Tryz.prog W = .ok (.tuple #[.string ⟨#[]⟩, .bool false]) W := by kernel_rfl
@[go_sem] theorem ta_obj_jsn (W : World) (v : Value) : (Instr.typeAssert (.iface 63 v) 20 93 true).run Tryz.prog W = .ok (.tuple #[.string ⟨#[]⟩, .bool false]) W := by kernel_rfl
@[go_sem] theorem ta_big_jsn (W : World) (v : Value) : (Instr.typeAssert (.iface 67 v) 20 93 true).run Tryz.prog W = .ok (.tuple #[.string ⟨#[]⟩, .bool false]) W := by kernel_rfl
@[go_sem] theorem ta_nil_jsn (W : World) : (Instr.typeAssert .nilIface 20 93 true).run Tryz.prog W = .ok (.tuple #[.string ⟨#[]⟩, .bool false]) W := by kernel_rfl
@[go_sem] theorem ta_int_arr (W : World) (v : Value) : (Instr.typeAssert (.iface 3 v) 20 61 true).run Tryz.prog W = .ok (.tuple #[.slice none 0 0, .bool false]) W := by kernel_rfl
@[go_sem] theorem ta_bool_arr (W : World) (v : Value) : (Instr.typeAssert (.iface 4 v) 20 61 true).run Tryz.prog W = .ok (.tuple #[.slice none 0 0, .bool false]) W := by kernel_rfl
@[go_sem] theorem ta_str_arr (W : World) (v : Value) : (Instr.typeAssert (.iface 9 v) 20 61 true).run Tryz.prog W = .ok (.tuple #[.slice none 0 0, .bool false]) W := by kernel_rfl
@[go_sem] theorem ta_flo_arr (W : World) (v : Value) : (Instr.typeAssert (.iface 39 v) 20 61 true).run Tryz.prog W = .ok (.tuple #[.slice none 0 0, .bool false]) W := by kernel_rfl
@[go_sem] theorem ta_arr_arr (W : World) (v : Value) : (Instr.typeAssert (.iface 61 v) 20 61 true).run Tryz.prog W = .ok (.tuple #[v, .bool true]) W := by kernel_rfl
@[go_sem] theorem ta_obj_arr (W : World) (v : Value) : (Instr.typeAssert (.iface 63 v) 20 61 true).run Tryz.prog W = .ok (.tuple #[.slice none 0 0, .bool false]) W := by kernel_rfl
@[go_sem] theorem ta_big_arr (W : World) (v : Value) : (Instr.typeAssert (.iface 67 v) 20 61 true).run Tryz.prog W = .ok (.tuple #[.slice none 0 0, .bool false]) W := by kernel_rfl
@[go_sem] theorem ta_nil_arr (W : World) : (Instr.typeAssert .nilIface 20 61 true).run Tryz.prog W = .ok (.tuple #[.slice none 0 0, .bool false]) W := by kernel_rfl
@[go_sem] theorem ta_int_obj (W : World) (v : Value) : (Instr.typeAssert (.iface 3 v) 20 63 true).run Tryz.prog W = .ok (.tuple #[.map none, .bool false]) W := by kernel_rfl
@[go_sem] theorem ta_bool_obj (W : World) (v : Value) : (Instr.typeAssert (.iface 4 v) 20 63 true).run Tryz.prog W = .ok (.tuple #[.map none, .bool false]) W := by kernel_rfl
@[go_sem] theorem ta_str_obj (W : World) (v : Value) : (Instr.typeAssert (.iface 9 v) 20 63 true).run Tryz.prog W = .ok (.tuple #[.map none, .bool false]) W := by kernel_rfl
@[go_sem] theorem ta_flo_obj (W : World) (v : Value) : (Instr.typeAssert (.iface 39 v) 20 63 true).run Tryz.prog W = .ok (.tuple #[.map none, .bool false]) W := by kernel_rfl
@[go_sem] theorem ta_arr_obj (W : World) (v : Value) : (Instr.typeAssert (.iface 61 v) 20 63 true).run Tryz.prog W = .ok (.tuple #[.map none, .bool false]) W := by kernel_rfl
@[go_sem] theorem ta_obj_obj (W : World) (v : Value) : (Instr.typeAssert (.iface 63 v) 20 63 true).run Tryz.prog W = .ok (.tuple #[v, .bool true]) W := by kernel_rfl
@[go_sem] theorem ta_big_obj (W : World) (v : Value) : (Instr.typeAssert (.iface 67 v) 20 63 true).run Tryz.prog W = .ok (.tuple #[.map none, .bool false]) W := by kernel_rfl
@[go_sem] theorem ta_nil_obj (W : World) : (Instr.typeAssert .nilIface 20 63 true).run Tryz.prog W = .ok (.tuple #[.map none, .bool false]) W := by kernel_rfl
@[go_sem] theorem tb_str_str (W : World) (v : Value) : (Instr.typeAssert (.iface 9 v) 20 9 false).run Tryz.prog W = .ok v W := by kernel_rfl
@[go_sem] theorem tb_arr_arr (W : World) (v : Value) : (Instr.typeAssert (.iface 61 v) 20 61 false).run Tryz.prog W = .ok v W := by kernel_rfl
@[go_sem] theorem run_store_float {P : Program} {w : World} {a : Addr} {m : Mode} (k : FloatKind) (b : Nat) : (store a (.float k b) m).run P w = stored P w a (.float k b) m := run_store P w a _ m rfl
end Go.Proofs.YtfgepnbfideliaaGreatDoor
