/- What an assertion gives at each dynamic type that the thin package makes: closed facts, by the kernel. -/
import Derived.Test.YtjpcdbopioblaaaDoorBase
import Derived.KernelRfl
import Derived.Stop.Asserts
namespace Go.Proofs.YtjpcdbopioblaaaDoor
open Go.RowKit
theorem as_bool_bool (v : Value) (w : World) : (Instr.typeAssert (.iface 4 v) 20 4 true).run Tryd.prog w = .ok (.tuple #[v, .bool true]) w := by kernel_rfl
theorem as_bool_int (v : Value) (w : World) : (Instr.typeAssert (.iface 4 v) 20 3 true).run Tryd.prog w = .ok (.tuple #[.int .i64 0, .bool false]) w := by kernel_rfl
theorem as_bool_float (v : Value) (w : World) : (Instr.typeAssert (.iface 4 v) 20 90 true).run Tryd.prog w = .ok (.tuple #[.float .f64 0, .bool false]) w := by kernel_rfl
theorem as_bool_str (v : Value) (w : World) : (Instr.typeAssert (.iface 4 v) 20 9 true).run Tryd.prog w = .ok (.tuple #[.string ByteArray.empty, .bool false]) w := by kernel_rfl
theorem as_bool_list (v : Value) (w : World) : (Instr.typeAssert (.iface 4 v) 20 85 true).run Tryd.prog w = .ok (.tuple #[.slice none 0 0, .bool false]) w := by kernel_rfl
theorem as_bool_map (v : Value) (w : World) : (Instr.typeAssert (.iface 4 v) 20 94 true).run Tryd.prog w = .ok (.tuple #[.map none, .bool false]) w := by kernel_rfl
theorem as_bool_big (v : Value) (w : World) : (Instr.typeAssert (.iface 4 v) 20 105 true).run Tryd.prog w = .ok (.tuple #[.pointer none, .bool false]) w := by kernel_rfl
theorem as_bool_num (v : Value) (w : World) : (Instr.typeAssert (.iface 4 v) 20 106 true).run Tryd.prog w = .ok (.tuple #[.string ByteArray.empty, .bool false]) w := by kernel_rfl
theorem as_int_bool (v : Value) (w : World) : (Instr.typeAssert (.iface 3 v) 20 4 true).run Tryd.prog w = .ok (.tuple #[.bool false, .bool false]) w := by kernel_rfl
theorem as_int_int (v : Value) (w : World) : (Instr.typeAssert (.iface 3 v) 20 3 true).run Tryd.prog w = .ok (.tuple #[v, .bool true]) w := by kernel_rfl
theorem as_int_float (v : Value) (w : World) : (Instr.typeAssert (.iface 3 v) 20 90 true).run Tryd.prog w = .ok (.tuple #[.float .f64 0, .bool false]) w := by kernel_rfl
theorem as_int_str (v : Value) (w : World) : (Instr.typeAssert (.iface 3 v) 20 9 true).run Tryd.prog w = .ok (.tuple #[.string ByteArray.empty, .bool false]) w := by kernel_rfl
theorem as_int_list (v : Value) (w : World) : (Instr.typeAssert (.iface 3 v) 20 85 true).run Tryd.prog w = .ok (.tuple #[.slice none 0 0, .bool false]) w := by kernel_rfl
theorem as_int_map (v : Value) (w : World) : (Instr.typeAssert (.iface 3 v) 20 94 true).run Tryd.prog w = .ok (.tuple #[.map none, .bool false]) w := by kernel_rfl
theorem as_int_big (v : Value) (w : World) : (Instr.typeAssert (.iface 3 v) 20 105 true).run Tryd.prog w = .ok (.tuple #[.pointer none, .bool false]) w := by kernel_rfl
theorem as_int_num (v : Value) (w : World) : (Instr.typeAssert (.iface 3 v) 20 106 true).run Tryd.prog w = .ok (.tuple #[.string ByteArray.empty, .bool false]) w := by kernel_rfl
theorem as_float_bool (v : Value) (w : World) : (Instr.typeAssert (.iface 90 v) 20 4 true).run Tryd.prog w = .ok (.tuple #[.bool false, .bool false]) w := by kernel_rfl
theorem as_float_int (v : Value) (w : World) : (Instr.typeAssert (.iface 90 v) 20 3 true).run Tryd.prog w = .ok (.tuple #[.int .i64 0, .bool false]) w := by kernel_rfl
theorem as_float_float (v : Value) (w : World) : (Instr.typeAssert (.iface 90 v) 20 90 true).run Tryd.prog w = .ok (.tuple #[v, .bool true]) w := by kernel_rfl
theorem as_float_str (v : Value) (w : World) : (Instr.typeAssert (.iface 90 v) 20 9 true).run Tryd.prog w = .ok (.tuple #[.string ByteArray.empty, .bool false]) w := by kernel_rfl
theorem as_float_list (v : Value) (w : World) : (Instr.typeAssert (.iface 90 v) 20 85 true).run Tryd.prog w = .ok (.tuple #[.slice none 0 0, .bool false]) w := by kernel_rfl
theorem as_float_map (v : Value) (w : World) : (Instr.typeAssert (.iface 90 v) 20 94 true).run Tryd.prog w = .ok (.tuple #[.map none, .bool false]) w := by kernel_rfl
theorem as_float_big (v : Value) (w : World) : (Instr.typeAssert (.iface 90 v) 20 105 true).run Tryd.prog w = .ok (.tuple #[.pointer none, .bool false]) w := by kernel_rfl
theorem as_float_num (v : Value) (w : World) : (Instr.typeAssert (.iface 90 v) 20 106 true).run Tryd.prog w = .ok (.tuple #[.string ByteArray.empty, .bool false]) w := by kernel_rfl
theorem as_str_bool (v : Value) (w : World) : (Instr.typeAssert (.iface 9 v) 20 4 true).run Tryd.prog w = .ok (.tuple #[.bool false, .bool false]) w := by kernel_rfl
theorem as_str_int (v : Value) (w : World) : (Instr.typeAssert (.iface 9 v) 20 3 true).run Tryd.prog w = .ok (.tuple #[.int .i64 0, .bool false]) w := by kernel_rfl
theorem as_str_float (v : Value) (w : World) : (Instr.typeAssert (.iface 9 v) 20 90 true).run Tryd.prog w = .ok (.tuple #[.float .f64 0, .bool false]) w := by kernel_rfl
theorem as_str_str (v : Value) (w : World) : (Instr.typeAssert (.iface 9 v) 20 9 true).run Tryd.prog w = .ok (.tuple #[v, .bool true]) w := by kernel_rfl
theorem as_str_list (v : Value) (w : World) : (Instr.typeAssert (.iface 9 v) 20 85 true).run Tryd.prog w = .ok (.tuple #[.slice none 0 0, .bool false]) w := by kernel_rfl
theorem as_str_map (v : Value) (w : World) : (Instr.typeAssert (.iface 9 v) 20 94 true).run Tryd.prog w = .ok (.tuple #[.map none, .bool false]) w := by kernel_rfl
theorem as_str_big (v : Value) (w : World) : (Instr.typeAssert (.iface 9 v) 20 105 true).run Tryd.prog w = .ok (.tuple #[.pointer none, .bool false]) w := by kernel_rfl
theorem as_str_num (v : Value) (w : World) : (Instr.typeAssert (.iface 9 v) 20 106 true).run Tryd.prog w = .ok (.tuple #[.string ByteArray.empty, .bool false]) w := by kernel_rfl
theorem as_list_bool (v : Value) (w : World) : (Instr.typeAssert (.iface 85 v) 20 4 true).run Tryd.prog w = .ok (.tuple #[.bool false, .bool false]) w := by kernel_rfl
theorem as_list_int (v : Value) (w : World) : (Instr.typeAssert (.iface 85 v) 20 3 true).run Tryd.prog w = .ok (.tuple #[.int .i64 0, .bool false]) w := by kernel_rfl
theorem as_list_float (v : Value) (w : World) : (Instr.typeAssert (.iface 85 v) 20 90 true).run Tryd.prog w = .ok (.tuple #[.float .f64 0, .bool false]) w := by kernel_rfl
theorem as_list_str (v : Value) (w : World) : (Instr.typeAssert (.iface 85 v) 20 9 true).run Tryd.prog w = .ok (.tuple #[.string ByteArray.empty, .bool false]) w := by kernel_rfl
theorem as_list_list (v : Value) (w : World) : (Instr.typeAssert (.iface 85 v) 20 85 true).run Tryd.prog w = .ok (.tuple #[v, .bool true]) w := by kernel_rfl
theorem as_list_map (v : Value) (w : World) : (Instr.typeAssert (.iface 85 v) 20 94 true).run Tryd.prog w = .ok (.tuple #[.map none, .bool false]) w := by kernel_rfl
theorem as_list_big (v : Value) (w : World) : (Instr.typeAssert (.iface 85 v) 20 105 true).run Tryd.prog w = .ok (.tuple #[.pointer none, .bool false]) w := by kernel_rfl
theorem as_list_num (v : Value) (w : World) : (Instr.typeAssert (.iface 85 v) 20 106 true).run Tryd.prog w = .ok (.tuple #[.string ByteArray.empty, .bool false]) w := by kernel_rfl
theorem as_map_bool (v : Value) (w : World) : (Instr.typeAssert (.iface 94 v) 20 4 true).run Tryd.prog w = .ok (.tuple #[.bool false, .bool false]) w := by kernel_rfl
theorem as_map_int (v : Value) (w : World) : (Instr.typeAssert (.iface 94 v) 20 3 true).run Tryd.prog w = .ok (.tuple #[.int .i64 0, .bool false]) w := by kernel_rfl
theorem as_map_float (v : Value) (w : World) : (Instr.typeAssert (.iface 94 v) 20 90 true).run Tryd.prog w = .ok (.tuple #[.float .f64 0, .bool false]) w := by kernel_rfl
theorem as_map_str (v : Value) (w : World) : (Instr.typeAssert (.iface 94 v) 20 9 true).run Tryd.prog w = .ok (.tuple #[.string ByteArray.empty, .bool false]) w := by kernel_rfl
theorem as_map_list (v : Value) (w : World) : (Instr.typeAssert (.iface 94 v) 20 85 true).run Tryd.prog w = .ok (.tuple #[.slice none 0 0, .bool false]) w := by kernel_rfl
theorem as_map_map (v : Value) (w : World) : (Instr.typeAssert (.iface 94 v) 20 94 true).run Tryd.prog w = .ok (.tuple #[v, .bool true]) w := by kernel_rfl
theorem as_map_big (v : Value) (w : World) : (Instr.typeAssert (.iface 94 v) 20 105 true).run Tryd.prog w = .ok (.tuple #[.pointer none, .bool false]) w := by kernel_rfl
theorem as_map_num (v : Value) (w : World) : (Instr.typeAssert (.iface 94 v) 20 106 true).run Tryd.prog w = .ok (.tuple #[.string ByteArray.empty, .bool false]) w := by kernel_rfl
theorem as_nil_bool (w : World) : (Instr.typeAssert .nilIface 20 4 true).run Tryd.prog w = .ok (.tuple #[.bool false, .bool false]) w := by kernel_rfl
theorem as_nil_int (w : World) : (Instr.typeAssert .nilIface 20 3 true).run Tryd.prog w = .ok (.tuple #[.int .i64 0, .bool false]) w := by kernel_rfl
theorem as_nil_float (w : World) : (Instr.typeAssert .nilIface 20 90 true).run Tryd.prog w = .ok (.tuple #[.float .f64 0, .bool false]) w := by kernel_rfl
theorem as_nil_str (w : World) : (Instr.typeAssert .nilIface 20 9 true).run Tryd.prog w = .ok (.tuple #[.string ByteArray.empty, .bool false]) w := by kernel_rfl
theorem as_nil_list (w : World) : (Instr.typeAssert .nilIface 20 85 true).run Tryd.prog w = .ok (.tuple #[.slice none 0 0, .bool false]) w := by kernel_rfl
theorem as_nil_map (w : World) : (Instr.typeAssert .nilIface 20 94 true).run Tryd.prog w = .ok (.tuple #[.map none, .bool false]) w := by kernel_rfl
theorem as_nil_big (w : World) : (Instr.typeAssert .nilIface 20 105 true).run Tryd.prog w = .ok (.tuple #[.pointer none, .bool false]) w := by kernel_rfl
theorem as_nil_num (w : World) : (Instr.typeAssert .nilIface 20 106 true).run Tryd.prog w = .ok (.tuple #[.string ByteArray.empty, .bool false]) w := by kernel_rfl
theorem as_nil_error (w : World) : (Instr.typeAssert .nilIface 20 117 true).run Tryd.prog w = .ok (.tuple #[.nilIface, .bool false]) w := by kernel_rfl
theorem as_bool_error (v : Value) (w : World) : (Instr.typeAssert (.iface 4 v) 20 117 true).run Tryd.prog w = .ok (.tuple #[.nilIface, .bool false]) w := run_typeAssert_lacksB Tryd.underlying117 (by kernel_rfl) (by kernel_rfl) v 20 w
theorem as_int_error (v : Value) (w : World) : (Instr.typeAssert (.iface 3 v) 20 117 true).run Tryd.prog w = .ok (.tuple #[.nilIface, .bool false]) w := run_typeAssert_lacksB Tryd.underlying117 (by kernel_rfl) (by kernel_rfl) v 20 w
theorem as_float_error (v : Value) (w : World) : (Instr.typeAssert (.iface 90 v) 20 117 true).run Tryd.prog w = .ok (.tuple #[.nilIface, .bool false]) w := run_typeAssert_lacksB Tryd.underlying117 (by kernel_rfl) (by kernel_rfl) v 20 w
theorem as_str_error (v : Value) (w : World) : (Instr.typeAssert (.iface 9 v) 20 117 true).run Tryd.prog w = .ok (.tuple #[.nilIface, .bool false]) w := run_typeAssert_lacksB Tryd.underlying117 (by kernel_rfl) (by kernel_rfl) v 20 w
theorem as_list_error (v : Value) (w : World) : (Instr.typeAssert (.iface 85 v) 20 117 true).run Tryd.prog w = .ok (.tuple #[.nilIface, .bool false]) w := run_typeAssert_lacksB Tryd.underlying117 (by kernel_rfl) (by kernel_rfl) v 20 w
theorem as_map_error (v : Value) (w : World) : (Instr.typeAssert (.iface 94 v) 20 117 true).run Tryd.prog w = .ok (.tuple #[.nilIface, .bool false]) w := run_typeAssert_lacksB Tryd.underlying117 (by kernel_rfl) (by kernel_rfl) v 20 w
end Go.Proofs.YtjpcdbopioblaaaDoor
