/- What the program's type assertions find at an int and a great integer: closed facts on its types. Conditions: none. -/
import Derived.Test.YtejmjkeeakfodaaGreatDoorParse
import Derived.Stop.Asserts
import Derived.KernelRfl
namespace Go.Proofs.YtejmjkeeakfodaaGreatDoor
open Go.RowKit
@[go_sem] theorem tb_int_yes (v : Value) (W : World) : (Instr.typeAssert (.iface 3 v) 20 3 true).run Tryz.prog W = .ok (.tuple #[v, .bool true]) W := by kernel_rfl
@[go_sem] theorem tb_int_big (v : Value) (W : World) : (Instr.typeAssert (.iface 41 v) 20 3 true).run Tryz.prog W = .ok (.tuple #[.int .i64 0, .bool false]) W := by kernel_rfl
@[go_sem] theorem tb_float_big (v : Value) (W : World) : (Instr.typeAssert (.iface 41 v) 20 44 true).run Tryz.prog W = .ok (.tuple #[.float .f64 0, .bool false]) W := by kernel_rfl
@[go_sem] theorem tb_big_yes (v : Value) (W : World) : (Instr.typeAssert (.iface 41 v) 20 41 true).run Tryz.prog W = .ok (.tuple #[v, .bool true]) W := by kernel_rfl
set_option maxRecDepth 100000 in
@[go_sem] theorem tb_error_int (v : Value) (W : World) : (Instr.typeAssert (.iface 3 v) 20 39 true).run Tryz.prog W = .ok (.tuple #[.nilIface, .bool false]) W := run_typeAssert_lacksB Tryz.underlying39 (by kernel_rfl) (by kernel_rfl) v _ W
set_option maxRecDepth 100000 in
@[go_sem] theorem tb_error_big (v : Value) (W : World) : (Instr.typeAssert (.iface 41 v) 20 39 true).run Tryz.prog W = .ok (.tuple #[.nilIface, .bool false]) W := run_typeAssert_lacksB Tryz.underlying39 (by kernel_rfl) (by kernel_rfl) v _ W
end Go.Proofs.YtejmjkeeakfodaaGreatDoor
