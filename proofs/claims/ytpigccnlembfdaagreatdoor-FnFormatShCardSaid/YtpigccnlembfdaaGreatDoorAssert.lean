/- What the program's type assertions find: closed facts on its types. Conditions: none. -/
import Derived.Test.YtpigccnlembfdaaGreatDoorVal
import Derived.Stop.Asserts
import Derived.KernelRfl
namespace Go.Proofs.YtpigccnlembfdaaGreatDoor
open Go.RowKit
theorem ta_bool_zero (W : World) : (do pure (Value.tuple #[← zeroValue 4, .bool false]) : Sem Value).run Tryz.prog W = .ok (.tuple #[.bool false, .bool false]) W := by kernel_rfl
@[go_sem] theorem ta_bool_yes (v : Value) (W : World) : (Instr.typeAssert (.iface 4 v) 20 4 true).run Tryz.prog W = .ok (.tuple #[v, .bool true]) W := by kernel_rfl
@[go_sem] theorem ta_bool_nil (W : World) : (Instr.typeAssert .nilIface 20 4 true).run Tryz.prog W = .ok (.tuple #[.bool false, .bool false]) W := by kernel_rfl
theorem ta_bool_no (u : TypeId) (v : Value) (W : World) (h : u ≠ 4) : (Instr.typeAssert (.iface u v) 20 4 true).run Tryz.prog W = .ok (.tuple #[.bool false, .bool false]) W := by
  have e : (Instr.typeAssert (.iface u v) 20 4 true).run Tryz.prog W = (if u = 4 then (pure (Value.tuple #[v, .bool true]) : Sem Value) else (do pure (Value.tuple #[← zeroValue 4, .bool false]))).run Tryz.prog W := by kernel_rfl
  rw [e, if_neg h]
  exact ta_bool_zero W
@[go_sem] theorem ta_bool_int (v : Value) (W : World) : (Instr.typeAssert (.iface 3 v) 20 4 true).run Tryz.prog W = .ok (.tuple #[.bool false, .bool false]) W := ta_bool_no _ v W (by decide)
@[go_sem] theorem ta_bool_float64 (v : Value) (W : World) : (Instr.typeAssert (.iface 65 v) 20 4 true).run Tryz.prog W = .ok (.tuple #[.bool false, .bool false]) W := ta_bool_no _ v W (by decide)
@[go_sem] theorem ta_bool_string (v : Value) (W : World) : (Instr.typeAssert (.iface 9 v) 20 4 true).run Tryz.prog W = .ok (.tuple #[.bool false, .bool false]) W := ta_bool_no _ v W (by decide)
@[go_sem] theorem ta_bool_list (v : Value) (W : World) : (Instr.typeAssert (.iface 66 v) 20 4 true).run Tryz.prog W = .ok (.tuple #[.bool false, .bool false]) W := ta_bool_no _ v W (by decide)
@[go_sem] theorem ta_bool_map (v : Value) (W : World) : (Instr.typeAssert (.iface 69 v) 20 4 true).run Tryz.prog W = .ok (.tuple #[.bool false, .bool false]) W := ta_bool_no _ v W (by decide)
@[go_sem] theorem ta_bool_func0TypeError (v : Value) (W : World) : (Instr.typeAssert (.iface 126 v) 20 4 true).run Tryz.prog W = .ok (.tuple #[.bool false, .bool false]) W := ta_bool_no _ v W (by decide)
@[go_sem] theorem ta_bool_formatRowError (v : Value) (W : World) : (Instr.typeAssert (.iface 129 v) 20 4 true).run Tryz.prog W = .ok (.tuple #[.bool false, .bool false]) W := ta_bool_no _ v W (by decide)
theorem ta_int_zero (W : World) : (do pure (Value.tuple #[← zeroValue 3, .bool false]) : Sem Value).run Tryz.prog W = .ok (.tuple #[.int .i64 0, .bool false]) W := by kernel_rfl
@[go_sem] theorem ta_int_yes (v : Value) (W : World) : (Instr.typeAssert (.iface 3 v) 20 3 true).run Tryz.prog W = .ok (.tuple #[v, .bool true]) W := by kernel_rfl
@[go_sem] theorem ta_int_nil (W : World) : (Instr.typeAssert .nilIface 20 3 true).run Tryz.prog W = .ok (.tuple #[.int .i64 0, .bool false]) W := by kernel_rfl
theorem ta_int_no (u : TypeId) (v : Value) (W : World) (h : u ≠ 3) : (Instr.typeAssert (.iface u v) 20 3 true).run Tryz.prog W = .ok (.tuple #[.int .i64 0, .bool false]) W := by
  have e : (Instr.typeAssert (.iface u v) 20 3 true).run Tryz.prog W = (if u = 3 then (pure (Value.tuple #[v, .bool true]) : Sem Value) else (do pure (Value.tuple #[← zeroValue 3, .bool false]))).run Tryz.prog W := by kernel_rfl
  rw [e, if_neg h]
  exact ta_int_zero W
@[go_sem] theorem ta_int_bool (v : Value) (W : World) : (Instr.typeAssert (.iface 4 v) 20 3 true).run Tryz.prog W = .ok (.tuple #[.int .i64 0, .bool false]) W := ta_int_no _ v W (by decide)
@[go_sem] theorem ta_int_float64 (v : Value) (W : World) : (Instr.typeAssert (.iface 65 v) 20 3 true).run Tryz.prog W = .ok (.tuple #[.int .i64 0, .bool false]) W := ta_int_no _ v W (by decide)
@[go_sem] theorem ta_int_string (v : Value) (W : World) : (Instr.typeAssert (.iface 9 v) 20 3 true).run Tryz.prog W = .ok (.tuple #[.int .i64 0, .bool false]) W := ta_int_no _ v W (by decide)
@[go_sem] theorem ta_int_list (v : Value) (W : World) : (Instr.typeAssert (.iface 66 v) 20 3 true).run Tryz.prog W = .ok (.tuple #[.int .i64 0, .bool false]) W := ta_int_no _ v W (by decide)
@[go_sem] theorem ta_int_map (v : Value) (W : World) : (Instr.typeAssert (.iface 69 v) 20 3 true).run Tryz.prog W = .ok (.tuple #[.int .i64 0, .bool false]) W := ta_int_no _ v W (by decide)
@[go_sem] theorem ta_int_func0TypeError (v : Value) (W : World) : (Instr.typeAssert (.iface 126 v) 20 3 true).run Tryz.prog W = .ok (.tuple #[.int .i64 0, .bool false]) W := ta_int_no _ v W (by decide)
@[go_sem] theorem ta_int_formatRowError (v : Value) (W : World) : (Instr.typeAssert (.iface 129 v) 20 3 true).run Tryz.prog W = .ok (.tuple #[.int .i64 0, .bool false]) W := ta_int_no _ v W (by decide)
theorem ta_float64_zero (W : World) : (do pure (Value.tuple #[← zeroValue 65, .bool false]) : Sem Value).run Tryz.prog W = .ok (.tuple #[.float .f64 0, .bool false]) W := by kernel_rfl
@[go_sem] theorem ta_float64_yes (v : Value) (W : World) : (Instr.typeAssert (.iface 65 v) 20 65 true).run Tryz.prog W = .ok (.tuple #[v, .bool true]) W := by kernel_rfl
@[go_sem] theorem ta_float64_nil (W : World) : (Instr.typeAssert .nilIface 20 65 true).run Tryz.prog W = .ok (.tuple #[.float .f64 0, .bool false]) W := by kernel_rfl
theorem ta_float64_no (u : TypeId) (v : Value) (W : World) (h : u ≠ 65) : (Instr.typeAssert (.iface u v) 20 65 true).run Tryz.prog W = .ok (.tuple #[.float .f64 0, .bool false]) W := by
  have e : (Instr.typeAssert (.iface u v) 20 65 true).run Tryz.prog W = (if u = 65 then (pure (Value.tuple #[v, .bool true]) : Sem Value) else (do pure (Value.tuple #[← zeroValue 65, .bool false]))).run Tryz.prog W := by kernel_rfl
  rw [e, if_neg h]
  exact ta_float64_zero W
@[go_sem] theorem ta_float64_bool (v : Value) (W : World) : (Instr.typeAssert (.iface 4 v) 20 65 true).run Tryz.prog W = .ok (.tuple #[.float .f64 0, .bool false]) W := ta_float64_no _ v W (by decide)
@[go_sem] theorem ta_float64_int (v : Value) (W : World) : (Instr.typeAssert (.iface 3 v) 20 65 true).run Tryz.prog W = .ok (.tuple #[.float .f64 0, .bool false]) W := ta_float64_no _ v W (by decide)
@[go_sem] theorem ta_float64_string (v : Value) (W : World) : (Instr.typeAssert (.iface 9 v) 20 65 true).run Tryz.prog W = .ok (.tuple #[.float .f64 0, .bool false]) W := ta_float64_no _ v W (by decide)
@[go_sem] theorem ta_float64_list (v : Value) (W : World) : (Instr.typeAssert (.iface 66 v) 20 65 true).run Tryz.prog W = .ok (.tuple #[.float .f64 0, .bool false]) W := ta_float64_no _ v W (by decide)
@[go_sem] theorem ta_float64_map (v : Value) (W : World) : (Instr.typeAssert (.iface 69 v) 20 65 true).run Tryz.prog W = .ok (.tuple #[.float .f64 0, .bool false]) W := ta_float64_no _ v W (by decide)
@[go_sem] theorem ta_float64_func0TypeError (v : Value) (W : World) : (Instr.typeAssert (.iface 126 v) 20 65 true).run Tryz.prog W = .ok (.tuple #[.float .f64 0, .bool false]) W := ta_float64_no _ v W (by decide)
@[go_sem] theorem ta_float64_formatRowError (v : Value) (W : World) : (Instr.typeAssert (.iface 129 v) 20 65 true).run Tryz.prog W = .ok (.tuple #[.float .f64 0, .bool false]) W := ta_float64_no _ v W (by decide)
theorem ta_string_zero (W : World) : (do pure (Value.tuple #[← zeroValue 9, .bool false]) : Sem Value).run Tryz.prog W = .ok (.tuple #[.string ⟨#[]⟩, .bool false]) W := by kernel_rfl
@[go_sem] theorem ta_string_yes (v : Value) (W : World) : (Instr.typeAssert (.iface 9 v) 20 9 true).run Tryz.prog W = .ok (.tuple #[v, .bool true]) W := by kernel_rfl
@[go_sem] theorem ta_string_nil (W : World) : (Instr.typeAssert .nilIface 20 9 true).run Tryz.prog W = .ok (.tuple #[.string ⟨#[]⟩, .bool false]) W := by kernel_rfl
theorem ta_string_no (u : TypeId) (v : Value) (W : World) (h : u ≠ 9) : (Instr.typeAssert (.iface u v) 20 9 true).run Tryz.prog W = .ok (.tuple #[.string ⟨#[]⟩, .bool false]) W := by
  have e : (Instr.typeAssert (.iface u v) 20 9 true).run Tryz.prog W = (if u = 9 then (pure (Value.tuple #[v, .bool true]) : Sem Value) else (do pure (Value.tuple #[← zeroValue 9, .bool false]))).run Tryz.prog W := by kernel_rfl
  rw [e, if_neg h]
  exact ta_string_zero W
@[go_sem] theorem ta_string_bool (v : Value) (W : World) : (Instr.typeAssert (.iface 4 v) 20 9 true).run Tryz.prog W = .ok (.tuple #[.string ⟨#[]⟩, .bool false]) W := ta_string_no _ v W (by decide)
@[go_sem] theorem ta_string_int (v : Value) (W : World) : (Instr.typeAssert (.iface 3 v) 20 9 true).run Tryz.prog W = .ok (.tuple #[.string ⟨#[]⟩, .bool false]) W := ta_string_no _ v W (by decide)
@[go_sem] theorem ta_string_float64 (v : Value) (W : World) : (Instr.typeAssert (.iface 65 v) 20 9 true).run Tryz.prog W = .ok (.tuple #[.string ⟨#[]⟩, .bool false]) W := ta_string_no _ v W (by decide)
@[go_sem] theorem ta_string_list (v : Value) (W : World) : (Instr.typeAssert (.iface 66 v) 20 9 true).run Tryz.prog W = .ok (.tuple #[.string ⟨#[]⟩, .bool false]) W := ta_string_no _ v W (by decide)
@[go_sem] theorem ta_string_map (v : Value) (W : World) : (Instr.typeAssert (.iface 69 v) 20 9 true).run Tryz.prog W = .ok (.tuple #[.string ⟨#[]⟩, .bool false]) W := ta_string_no _ v W (by decide)
@[go_sem] theorem ta_string_func0TypeError (v : Value) (W : World) : (Instr.typeAssert (.iface 126 v) 20 9 true).run Tryz.prog W = .ok (.tuple #[.string ⟨#[]⟩, .bool false]) W := ta_string_no _ v W (by decide)
@[go_sem] theorem ta_string_formatRowError (v : Value) (W : World) : (Instr.typeAssert (.iface 129 v) 20 9 true).run Tryz.prog W = .ok (.tuple #[.string ⟨#[]⟩, .bool false]) W := ta_string_no _ v W (by decide)
theorem ta_list_zero (W : World) : (do pure (Value.tuple #[← zeroValue 66, .bool false]) : Sem Value).run Tryz.prog W = .ok (.tuple #[.slice none 0 0, .bool false]) W := by kernel_rfl
@[go_sem] theorem ta_list_yes (v : Value) (W : World) : (Instr.typeAssert (.iface 66 v) 20 66 true).run Tryz.prog W = .ok (.tuple #[v, .bool true]) W := by kernel_rfl
@[go_sem] theorem ta_list_nil (W : World) : (Instr.typeAssert .nilIface 20 66 true).run Tryz.prog W = .ok (.tuple #[.slice none 0 0, .bool false]) W := by kernel_rfl
theorem ta_list_no (u : TypeId) (v : Value) (W : World) (h : u ≠ 66) : (Instr.typeAssert (.iface u v) 20 66 true).run Tryz.prog W = .ok (.tuple #[.slice none 0 0, .bool false]) W := by
  have e : (Instr.typeAssert (.iface u v) 20 66 true).run Tryz.prog W = (if u = 66 then (pure (Value.tuple #[v, .bool true]) : Sem Value) else (do pure (Value.tuple #[← zeroValue 66, .bool false]))).run Tryz.prog W := by kernel_rfl
  rw [e, if_neg h]
  exact ta_list_zero W
@[go_sem] theorem ta_list_bool (v : Value) (W : World) : (Instr.typeAssert (.iface 4 v) 20 66 true).run Tryz.prog W = .ok (.tuple #[.slice none 0 0, .bool false]) W := ta_list_no _ v W (by decide)
@[go_sem] theorem ta_list_int (v : Value) (W : World) : (Instr.typeAssert (.iface 3 v) 20 66 true).run Tryz.prog W = .ok (.tuple #[.slice none 0 0, .bool false]) W := ta_list_no _ v W (by decide)
@[go_sem] theorem ta_list_float64 (v : Value) (W : World) : (Instr.typeAssert (.iface 65 v) 20 66 true).run Tryz.prog W = .ok (.tuple #[.slice none 0 0, .bool false]) W := ta_list_no _ v W (by decide)
@[go_sem] theorem ta_list_string (v : Value) (W : World) : (Instr.typeAssert (.iface 9 v) 20 66 true).run Tryz.prog W = .ok (.tuple #[.slice none 0 0, .bool false]) W := ta_list_no _ v W (by decide)
@[go_sem] theorem ta_list_map (v : Value) (W : World) : (Instr.typeAssert (.iface 69 v) 20 66 true).run Tryz.prog W = .ok (.tuple #[.slice none 0 0, .bool false]) W := ta_list_no _ v W (by decide)
@[go_sem] theorem ta_list_func0TypeError (v : Value) (W : World) : (Instr.typeAssert (.iface 126 v) 20 66 true).run Tryz.prog W = .ok (.tuple #[.slice none 0 0, .bool false]) W := ta_list_no _ v W (by decide)
@[go_sem] theorem ta_list_formatRowError (v : Value) (W : World) : (Instr.typeAssert (.iface 129 v) 20 66 true).run Tryz.prog W = .ok (.tuple #[.slice none 0 0, .bool false]) W := ta_list_no _ v W (by decide)
theorem ta_map_zero (W : World) : (do pure (Value.tuple #[← zeroValue 69, .bool false]) : Sem Value).run Tryz.prog W = .ok (.tuple #[.map none, .bool false]) W := by kernel_rfl
@[go_sem] theorem ta_map_yes (v : Value) (W : World) : (Instr.typeAssert (.iface 69 v) 20 69 true).run Tryz.prog W = .ok (.tuple #[v, .bool true]) W := by kernel_rfl
@[go_sem] theorem ta_map_nil (W : World) : (Instr.typeAssert .nilIface 20 69 true).run Tryz.prog W = .ok (.tuple #[.map none, .bool false]) W := by kernel_rfl
theorem ta_map_no (u : TypeId) (v : Value) (W : World) (h : u ≠ 69) : (Instr.typeAssert (.iface u v) 20 69 true).run Tryz.prog W = .ok (.tuple #[.map none, .bool false]) W := by
  have e : (Instr.typeAssert (.iface u v) 20 69 true).run Tryz.prog W = (if u = 69 then (pure (Value.tuple #[v, .bool true]) : Sem Value) else (do pure (Value.tuple #[← zeroValue 69, .bool false]))).run Tryz.prog W := by kernel_rfl
  rw [e, if_neg h]
  exact ta_map_zero W
@[go_sem] theorem ta_map_bool (v : Value) (W : World) : (Instr.typeAssert (.iface 4 v) 20 69 true).run Tryz.prog W = .ok (.tuple #[.map none, .bool false]) W := ta_map_no _ v W (by decide)
@[go_sem] theorem ta_map_int (v : Value) (W : World) : (Instr.typeAssert (.iface 3 v) 20 69 true).run Tryz.prog W = .ok (.tuple #[.map none, .bool false]) W := ta_map_no _ v W (by decide)
@[go_sem] theorem ta_map_float64 (v : Value) (W : World) : (Instr.typeAssert (.iface 65 v) 20 69 true).run Tryz.prog W = .ok (.tuple #[.map none, .bool false]) W := ta_map_no _ v W (by decide)
@[go_sem] theorem ta_map_string (v : Value) (W : World) : (Instr.typeAssert (.iface 9 v) 20 69 true).run Tryz.prog W = .ok (.tuple #[.map none, .bool false]) W := ta_map_no _ v W (by decide)
@[go_sem] theorem ta_map_list (v : Value) (W : World) : (Instr.typeAssert (.iface 66 v) 20 69 true).run Tryz.prog W = .ok (.tuple #[.map none, .bool false]) W := ta_map_no _ v W (by decide)
@[go_sem] theorem ta_map_func0TypeError (v : Value) (W : World) : (Instr.typeAssert (.iface 126 v) 20 69 true).run Tryz.prog W = .ok (.tuple #[.map none, .bool false]) W := ta_map_no _ v W (by decide)
@[go_sem] theorem ta_map_formatRowError (v : Value) (W : World) : (Instr.typeAssert (.iface 129 v) 20 69 true).run Tryz.prog W = .ok (.tuple #[.map none, .bool false]) W := ta_map_no _ v W (by decide)
@[go_sem] theorem ta_error_nil (W : World) : (Instr.typeAssert .nilIface 20 81 true).run Tryz.prog W = .ok (.tuple #[.nilIface, .bool false]) W := by kernel_rfl
@[go_sem] theorem ta_error_bool (v : Value) (W : World) : (Instr.typeAssert (.iface 4 v) 20 81 true).run Tryz.prog W = .ok (.tuple #[.nilIface, .bool false]) W := run_typeAssert_lacksB Tryz.underlying81 (by kernel_rfl) (by kernel_rfl) v _ W
@[go_sem] theorem ta_error_int (v : Value) (W : World) : (Instr.typeAssert (.iface 3 v) 20 81 true).run Tryz.prog W = .ok (.tuple #[.nilIface, .bool false]) W := run_typeAssert_lacksB Tryz.underlying81 (by kernel_rfl) (by kernel_rfl) v _ W
@[go_sem] theorem ta_error_float64 (v : Value) (W : World) : (Instr.typeAssert (.iface 65 v) 20 81 true).run Tryz.prog W = .ok (.tuple #[.nilIface, .bool false]) W := run_typeAssert_lacksB Tryz.underlying81 (by kernel_rfl) (by kernel_rfl) v _ W
@[go_sem] theorem ta_error_string (v : Value) (W : World) : (Instr.typeAssert (.iface 9 v) 20 81 true).run Tryz.prog W = .ok (.tuple #[.nilIface, .bool false]) W := run_typeAssert_lacksB Tryz.underlying81 (by kernel_rfl) (by kernel_rfl) v _ W
@[go_sem] theorem ta_error_list (v : Value) (W : World) : (Instr.typeAssert (.iface 66 v) 20 81 true).run Tryz.prog W = .ok (.tuple #[.nilIface, .bool false]) W := run_typeAssert_lacksB Tryz.underlying81 (by kernel_rfl) (by kernel_rfl) v _ W
@[go_sem] theorem ta_error_map (v : Value) (W : World) : (Instr.typeAssert (.iface 69 v) 20 81 true).run Tryz.prog W = .ok (.tuple #[.nilIface, .bool false]) W := run_typeAssert_lacksB Tryz.underlying81 (by kernel_rfl) (by kernel_rfl) v _ W
@[go_sem] theorem ta_error_func0TypeError (v : Value) (W : World) : (Instr.typeAssert (.iface 126 v) 20 81 true).run Tryz.prog W = .ok (.tuple #[.iface 126 v, .bool true]) W := run_typeAssert_hasB Tryz.underlying81 (by kernel_rfl) v _ W
@[go_sem] theorem ta_error_formatRowError (v : Value) (W : World) : (Instr.typeAssert (.iface 129 v) 20 81 true).run Tryz.prog W = .ok (.tuple #[.iface 129 v, .bool true]) W := run_typeAssert_hasB Tryz.underlying81 (by kernel_rfl) v _ W
@[go_sem] theorem eql_nil_nil (W : World) : (binOp .eql 20 .nilIface .nilIface).run Tryz.prog W = .ok (.bool true) W := by kernel_rfl
@[go_sem] theorem eql_iface_nil (u : TypeId) (v : Value) (W : World) : (binOp .eql 20 (.iface u v) .nilIface).run Tryz.prog W = .ok (.bool false) W := by kernel_rfl
end Go.Proofs.YtpigccnlembfdaaGreatDoor
