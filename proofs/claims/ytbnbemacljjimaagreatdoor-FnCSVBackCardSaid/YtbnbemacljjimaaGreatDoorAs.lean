/- What a type assertion says of the types that a value can have. -/
import Derived.Test.YtbnbemacljjimaaGreatDoorCmp
import Derived.Stop.Asserts
namespace Go.Proofs.YtbnbemacljjimaaGreatDoor
open Go.RowKit
set_option linter.unusedVariables false
@[go_sem] theorem as_bool_bool (v : Value) (w : World) : (Instr.typeAssert (.iface 4 v) 20 4 true).run Tryz.prog w = .ok (.tuple #[v, .bool true]) w := by kernel_rfl
@[go_sem] theorem as_bool_int (v : Value) (w : World) : (Instr.typeAssert (.iface 4 v) 20 3 true).run Tryz.prog w = .ok (.tuple #[(.int .i64 0), .bool false]) w := by kernel_rfl
@[go_sem] theorem as_bool_float (v : Value) (w : World) : (Instr.typeAssert (.iface 4 v) 20 82 true).run Tryz.prog w = .ok (.tuple #[(.float .f64 0), .bool false]) w := by kernel_rfl
@[go_sem] theorem as_bool_str (v : Value) (w : World) : (Instr.typeAssert (.iface 4 v) 20 9 true).run Tryz.prog w = .ok (.tuple #[(.string ByteArray.empty), .bool false]) w := by kernel_rfl
@[go_sem] theorem as_bool_list (v : Value) (w : World) : (Instr.typeAssert (.iface 4 v) 20 83 true).run Tryz.prog w = .ok (.tuple #[(.slice none 0 0), .bool false]) w := by kernel_rfl
@[go_sem] theorem as_bool_map (v : Value) (w : World) : (Instr.typeAssert (.iface 4 v) 20 86 true).run Tryz.prog w = .ok (.tuple #[(.map none), .bool false]) w := by kernel_rfl
@[go_sem] theorem as_bool_big (v : Value) (w : World) : (Instr.typeAssert (.iface 4 v) 20 156 true).run Tryz.prog w = .ok (.tuple #[(.pointer none), .bool false]) w := by kernel_rfl
@[go_sem] theorem as_bool_num (v : Value) (w : World) : (Instr.typeAssert (.iface 4 v) 20 158 true).run Tryz.prog w = .ok (.tuple #[(.string ByteArray.empty), .bool false]) w := by kernel_rfl
@[go_sem] theorem as_int_bool (v : Value) (w : World) : (Instr.typeAssert (.iface 3 v) 20 4 true).run Tryz.prog w = .ok (.tuple #[(.bool false), .bool false]) w := by kernel_rfl
@[go_sem] theorem as_int_int (v : Value) (w : World) : (Instr.typeAssert (.iface 3 v) 20 3 true).run Tryz.prog w = .ok (.tuple #[v, .bool true]) w := by kernel_rfl
@[go_sem] theorem as_int_float (v : Value) (w : World) : (Instr.typeAssert (.iface 3 v) 20 82 true).run Tryz.prog w = .ok (.tuple #[(.float .f64 0), .bool false]) w := by kernel_rfl
@[go_sem] theorem as_int_str (v : Value) (w : World) : (Instr.typeAssert (.iface 3 v) 20 9 true).run Tryz.prog w = .ok (.tuple #[(.string ByteArray.empty), .bool false]) w := by kernel_rfl
@[go_sem] theorem as_int_list (v : Value) (w : World) : (Instr.typeAssert (.iface 3 v) 20 83 true).run Tryz.prog w = .ok (.tuple #[(.slice none 0 0), .bool false]) w := by kernel_rfl
@[go_sem] theorem as_int_map (v : Value) (w : World) : (Instr.typeAssert (.iface 3 v) 20 86 true).run Tryz.prog w = .ok (.tuple #[(.map none), .bool false]) w := by kernel_rfl
@[go_sem] theorem as_int_big (v : Value) (w : World) : (Instr.typeAssert (.iface 3 v) 20 156 true).run Tryz.prog w = .ok (.tuple #[(.pointer none), .bool false]) w := by kernel_rfl
@[go_sem] theorem as_int_num (v : Value) (w : World) : (Instr.typeAssert (.iface 3 v) 20 158 true).run Tryz.prog w = .ok (.tuple #[(.string ByteArray.empty), .bool false]) w := by kernel_rfl
@[go_sem] theorem as_float_bool (v : Value) (w : World) : (Instr.typeAssert (.iface 82 v) 20 4 true).run Tryz.prog w = .ok (.tuple #[(.bool false), .bool false]) w := by kernel_rfl
@[go_sem] theorem as_float_int (v : Value) (w : World) : (Instr.typeAssert (.iface 82 v) 20 3 true).run Tryz.prog w = .ok (.tuple #[(.int .i64 0), .bool false]) w := by kernel_rfl
@[go_sem] theorem as_float_float (v : Value) (w : World) : (Instr.typeAssert (.iface 82 v) 20 82 true).run Tryz.prog w = .ok (.tuple #[v, .bool true]) w := by kernel_rfl
@[go_sem] theorem as_float_str (v : Value) (w : World) : (Instr.typeAssert (.iface 82 v) 20 9 true).run Tryz.prog w = .ok (.tuple #[(.string ByteArray.empty), .bool false]) w := by kernel_rfl
@[go_sem] theorem as_float_list (v : Value) (w : World) : (Instr.typeAssert (.iface 82 v) 20 83 true).run Tryz.prog w = .ok (.tuple #[(.slice none 0 0), .bool false]) w := by kernel_rfl
@[go_sem] theorem as_float_map (v : Value) (w : World) : (Instr.typeAssert (.iface 82 v) 20 86 true).run Tryz.prog w = .ok (.tuple #[(.map none), .bool false]) w := by kernel_rfl
@[go_sem] theorem as_float_big (v : Value) (w : World) : (Instr.typeAssert (.iface 82 v) 20 156 true).run Tryz.prog w = .ok (.tuple #[(.pointer none), .bool false]) w := by kernel_rfl
@[go_sem] theorem as_float_num (v : Value) (w : World) : (Instr.typeAssert (.iface 82 v) 20 158 true).run Tryz.prog w = .ok (.tuple #[(.string ByteArray.empty), .bool false]) w := by kernel_rfl
@[go_sem] theorem as_str_bool (v : Value) (w : World) : (Instr.typeAssert (.iface 9 v) 20 4 true).run Tryz.prog w = .ok (.tuple #[(.bool false), .bool false]) w := by kernel_rfl
@[go_sem] theorem as_str_int (v : Value) (w : World) : (Instr.typeAssert (.iface 9 v) 20 3 true).run Tryz.prog w = .ok (.tuple #[(.int .i64 0), .bool false]) w := by kernel_rfl
@[go_sem] theorem as_str_float (v : Value) (w : World) : (Instr.typeAssert (.iface 9 v) 20 82 true).run Tryz.prog w = .ok (.tuple #[(.float .f64 0), .bool false]) w := by kernel_rfl
@[go_sem] theorem as_str_str (v : Value) (w : World) : (Instr.typeAssert (.iface 9 v) 20 9 true).run Tryz.prog w = .ok (.tuple #[v, .bool true]) w := by kernel_rfl
@[go_sem] theorem as_str_list (v : Value) (w : World) : (Instr.typeAssert (.iface 9 v) 20 83 true).run Tryz.prog w = .ok (.tuple #[(.slice none 0 0), .bool false]) w := by kernel_rfl
@[go_sem] theorem as_str_map (v : Value) (w : World) : (Instr.typeAssert (.iface 9 v) 20 86 true).run Tryz.prog w = .ok (.tuple #[(.map none), .bool false]) w := by kernel_rfl
@[go_sem] theorem as_str_big (v : Value) (w : World) : (Instr.typeAssert (.iface 9 v) 20 156 true).run Tryz.prog w = .ok (.tuple #[(.pointer none), .bool false]) w := by kernel_rfl
@[go_sem] theorem as_str_num (v : Value) (w : World) : (Instr.typeAssert (.iface 9 v) 20 158 true).run Tryz.prog w = .ok (.tuple #[(.string ByteArray.empty), .bool false]) w := by kernel_rfl
@[go_sem] theorem as_list_bool (v : Value) (w : World) : (Instr.typeAssert (.iface 83 v) 20 4 true).run Tryz.prog w = .ok (.tuple #[(.bool false), .bool false]) w := by kernel_rfl
@[go_sem] theorem as_list_int (v : Value) (w : World) : (Instr.typeAssert (.iface 83 v) 20 3 true).run Tryz.prog w = .ok (.tuple #[(.int .i64 0), .bool false]) w := by kernel_rfl
@[go_sem] theorem as_list_float (v : Value) (w : World) : (Instr.typeAssert (.iface 83 v) 20 82 true).run Tryz.prog w = .ok (.tuple #[(.float .f64 0), .bool false]) w := by kernel_rfl
@[go_sem] theorem as_list_str (v : Value) (w : World) : (Instr.typeAssert (.iface 83 v) 20 9 true).run Tryz.prog w = .ok (.tuple #[(.string ByteArray.empty), .bool false]) w := by kernel_rfl
@[go_sem] theorem as_list_list (v : Value) (w : World) : (Instr.typeAssert (.iface 83 v) 20 83 true).run Tryz.prog w = .ok (.tuple #[v, .bool true]) w := by kernel_rfl
@[go_sem] theorem as_list_map (v : Value) (w : World) : (Instr.typeAssert (.iface 83 v) 20 86 true).run Tryz.prog w = .ok (.tuple #[(.map none), .bool false]) w := by kernel_rfl
@[go_sem] theorem as_list_big (v : Value) (w : World) : (Instr.typeAssert (.iface 83 v) 20 156 true).run Tryz.prog w = .ok (.tuple #[(.pointer none), .bool false]) w := by kernel_rfl
@[go_sem] theorem as_list_num (v : Value) (w : World) : (Instr.typeAssert (.iface 83 v) 20 158 true).run Tryz.prog w = .ok (.tuple #[(.string ByteArray.empty), .bool false]) w := by kernel_rfl
@[go_sem] theorem as_map_bool (v : Value) (w : World) : (Instr.typeAssert (.iface 86 v) 20 4 true).run Tryz.prog w = .ok (.tuple #[(.bool false), .bool false]) w := by kernel_rfl
@[go_sem] theorem as_map_int (v : Value) (w : World) : (Instr.typeAssert (.iface 86 v) 20 3 true).run Tryz.prog w = .ok (.tuple #[(.int .i64 0), .bool false]) w := by kernel_rfl
@[go_sem] theorem as_map_float (v : Value) (w : World) : (Instr.typeAssert (.iface 86 v) 20 82 true).run Tryz.prog w = .ok (.tuple #[(.float .f64 0), .bool false]) w := by kernel_rfl
@[go_sem] theorem as_map_str (v : Value) (w : World) : (Instr.typeAssert (.iface 86 v) 20 9 true).run Tryz.prog w = .ok (.tuple #[(.string ByteArray.empty), .bool false]) w := by kernel_rfl
@[go_sem] theorem as_map_list (v : Value) (w : World) : (Instr.typeAssert (.iface 86 v) 20 83 true).run Tryz.prog w = .ok (.tuple #[(.slice none 0 0), .bool false]) w := by kernel_rfl
@[go_sem] theorem as_map_map (v : Value) (w : World) : (Instr.typeAssert (.iface 86 v) 20 86 true).run Tryz.prog w = .ok (.tuple #[v, .bool true]) w := by kernel_rfl
@[go_sem] theorem as_map_big (v : Value) (w : World) : (Instr.typeAssert (.iface 86 v) 20 156 true).run Tryz.prog w = .ok (.tuple #[(.pointer none), .bool false]) w := by kernel_rfl
@[go_sem] theorem as_map_num (v : Value) (w : World) : (Instr.typeAssert (.iface 86 v) 20 158 true).run Tryz.prog w = .ok (.tuple #[(.string ByteArray.empty), .bool false]) w := by kernel_rfl
@[go_sem] theorem as_nil_bool (w : World) : (Instr.typeAssert .nilIface 20 4 true).run Tryz.prog w = .ok (.tuple #[(.bool false), .bool false]) w := by kernel_rfl
@[go_sem] theorem as_nil_int (w : World) : (Instr.typeAssert .nilIface 20 3 true).run Tryz.prog w = .ok (.tuple #[(.int .i64 0), .bool false]) w := by kernel_rfl
@[go_sem] theorem as_nil_float (w : World) : (Instr.typeAssert .nilIface 20 82 true).run Tryz.prog w = .ok (.tuple #[(.float .f64 0), .bool false]) w := by kernel_rfl
@[go_sem] theorem as_nil_str (w : World) : (Instr.typeAssert .nilIface 20 9 true).run Tryz.prog w = .ok (.tuple #[(.string ByteArray.empty), .bool false]) w := by kernel_rfl
@[go_sem] theorem as_nil_list (w : World) : (Instr.typeAssert .nilIface 20 83 true).run Tryz.prog w = .ok (.tuple #[(.slice none 0 0), .bool false]) w := by kernel_rfl
@[go_sem] theorem as_nil_map (w : World) : (Instr.typeAssert .nilIface 20 86 true).run Tryz.prog w = .ok (.tuple #[(.map none), .bool false]) w := by kernel_rfl
@[go_sem] theorem as_nil_big (w : World) : (Instr.typeAssert .nilIface 20 156 true).run Tryz.prog w = .ok (.tuple #[(.pointer none), .bool false]) w := by kernel_rfl
@[go_sem] theorem as_nil_num (w : World) : (Instr.typeAssert .nilIface 20 158 true).run Tryz.prog w = .ok (.tuple #[(.string ByteArray.empty), .bool false]) w := by kernel_rfl
@[go_sem] theorem as_bool_err (v : Value) (w : World) : (Instr.typeAssert (.iface 4 v) 20 90 true).run Tryz.prog w = .ok (.tuple #[.nilIface, .bool false]) w := run_typeAssert_lacksB Tryz.underlying90 (by kernel_rfl) (by kernel_rfl) v 20 w
@[go_sem] theorem as_int_err (v : Value) (w : World) : (Instr.typeAssert (.iface 3 v) 20 90 true).run Tryz.prog w = .ok (.tuple #[.nilIface, .bool false]) w := run_typeAssert_lacksB Tryz.underlying90 (by kernel_rfl) (by kernel_rfl) v 20 w
@[go_sem] theorem as_float_err (v : Value) (w : World) : (Instr.typeAssert (.iface 82 v) 20 90 true).run Tryz.prog w = .ok (.tuple #[.nilIface, .bool false]) w := run_typeAssert_lacksB Tryz.underlying90 (by kernel_rfl) (by kernel_rfl) v 20 w
@[go_sem] theorem as_str_err (v : Value) (w : World) : (Instr.typeAssert (.iface 9 v) 20 90 true).run Tryz.prog w = .ok (.tuple #[.nilIface, .bool false]) w := run_typeAssert_lacksB Tryz.underlying90 (by kernel_rfl) (by kernel_rfl) v 20 w
@[go_sem] theorem as_list_err (v : Value) (w : World) : (Instr.typeAssert (.iface 83 v) 20 90 true).run Tryz.prog w = .ok (.tuple #[.nilIface, .bool false]) w := run_typeAssert_lacksB Tryz.underlying90 (by kernel_rfl) (by kernel_rfl) v 20 w
@[go_sem] theorem as_map_err (v : Value) (w : World) : (Instr.typeAssert (.iface 86 v) 20 90 true).run Tryz.prog w = .ok (.tuple #[.nilIface, .bool false]) w := run_typeAssert_lacksB Tryz.underlying90 (by kernel_rfl) (by kernel_rfl) v 20 w
@[go_sem] theorem as_nil_err (w : World) : (Instr.typeAssert .nilIface 20 90 true).run Tryz.prog w = .ok (.tuple #[.nilIface, .bool false]) w := by kernel_rfl
@[go_sem] theorem as_func0TypeError_err (v : Value) (w : World) : (Instr.typeAssert (.iface 136 v) 20 90 true).run Tryz.prog w = .ok (.tuple #[.iface 136 v, .bool true]) w := run_typeAssert_hasB Tryz.underlying90 (by kernel_rfl) v 20 w
@[go_sem] theorem as_formatRowError_err (v : Value) (w : World) : (Instr.typeAssert (.iface 139 v) 20 90 true).run Tryz.prog w = .ok (.tuple #[.iface 139 v, .bool true]) w := run_typeAssert_hasB Tryz.underlying90 (by kernel_rfl) v 20 w
end Go.Proofs.YtbnbemacljjimaaGreatDoor
