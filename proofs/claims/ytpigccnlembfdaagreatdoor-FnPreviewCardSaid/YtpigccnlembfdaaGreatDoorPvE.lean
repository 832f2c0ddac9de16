/- Type assertions; appends into a row; the bits of halves; the text of a number; spec.JSON at a leaf. Conditions: as each theorem states. -/
import Derived.Test.YtpigccnlembfdaaGreatDoorPvA
import Derived.Test.YtpigccnlembfdaaGreatDoorPvD
import Derived.Stop.Asserts
import Derived.KernelRfl
import Derived.Laws.CopyRow
import Derived.Laws.ResultCell
import Derived.WalkSmall

/- What the program's type assertions find: closed facts on its types. Conditions: none. -/
namespace Go.Proofs.YtpigccnlembfdaaGreatDoor
open Go.RowKit
theorem ta_bool_zero (W : World) : (do pure (Value.tuple #[← zeroValue 4, .bool false]) : Sem Value).run Tryz.prog W = .ok (.tuple #[.bool false, .bool false]) W := by kernel_rfl
@[go_sem] theorem ta_bool_yes (v : Value) (W : World) : (Instr.typeAssert (.iface 4 v) 20 4 true).run Tryz.prog W = .ok (.tuple #[v, .bool true]) W := by kernel_rfl
@[go_sem] theorem ta_bool_nil (W : World) : (Instr.typeAssert .nilIface 20 4 true).run Tryz.prog W = .ok (.tuple #[.bool false, .bool false]) W := by kernel_rfl
theorem ta_bool_no (u : TypeId) (v : Value) (W : World) (h : u ≠ 4) : (Instr.typeAssert (.iface u v) 20 4 true).run Tryz.prog W = .ok (.tuple #[.bool false, .bool false]) W := by
  have e : (Instr.typeAssert (.iface u v) 20 4 true).run Tryz.prog W = (if u = 4 then (pure (Value.tuple #[v, .bool true]) : Sem Value) else (do pure (Value.tuple #[← zeroValue 4, .bool false]))).run Tryz.prog W := by kernel_rfl
  rw [e, if_neg h]
  exact ta_bool_zero W
@[go_sem] theorem ta_bool_int (v : Value) (W : World) : (Instr.typeAssert (.iface 3 v) 20 4 true).run Tryz.prog W = .ok (.tuple #[.bool false, .bool false]) W := ta_bool_no _ v W (by decide)
@[go_sem] theorem ta_bool_float64 (v : Value) (W : World) : (Instr.typeAssert (.iface 65 v) 20 4 true).run Tryz.prog W = .ok (.tuple #[.bool false, .bool false]) W := ta_bool_no _ v W (by decide)
@[go_sem] theorem ta_bool_string (v : Value) (W : World) : (Instr.typeAssert (.iface 9 v) 20 4 true).run Tryz.prog W = .ok (.tuple #[.bool false, .bool false]) W := ta_bool_no _ v W (by decide)
@[go_sem] theorem ta_bool_list (v : Value) (W : World) : (Instr.typeAssert (.iface 66 v) 20 4 true).run Tryz.prog W = .ok (.tuple #[.bool false, .bool false]) W := ta_bool_no _ v W (by decide)
@[go_sem] theorem ta_bool_map (v : Value) (W : World) : (Instr.typeAssert (.iface 69 v) 20 4 true).run Tryz.prog W = .ok (.tuple #[.bool false, .bool false]) W := ta_bool_no _ v W (by decide)
@[go_sem] theorem ta_bool_func0TypeError (v : Value) (W : World) : (Instr.typeAssert (.iface 126 v) 20 4 true).run Tryz.prog W = .ok (.tuple #[.bool false, .bool false]) W := ta_bool_no _ v W (by decide)
@[go_sem] theorem ta_bool_formatRowError (v : Value) (W : World) : (Instr.typeAssert (.iface 129 v) 20 4 true).run Tryz.prog W = .ok (.tuple #[.bool false, .bool false]) W := ta_bool_no _ v W (by decide)
theorem ta_int_zero (W : World) : (do pure (Value.tuple #[← zeroValue 3, .bool false]) : Sem Value).run Tryz.prog W = .ok (.tuple #[.int .i64 0, .bool false]) W := by kernel_rfl
@[go_sem] theorem ta_int_yes (v : Value) (W : World) : (Instr.typeAssert (.iface 3 v) 20 3 true).run Tryz.prog W = .ok (.tuple #[v, .bool true]) W := by kernel_rfl
@[go_sem] theorem ta_int_nil (W : World) : (Instr.typeAssert .nilIface 20 3 true).run Tryz.prog W = .ok (.tuple #[.int .i64 0, .bool false]) W := by kernel_rfl
theorem ta_int_no (u : TypeId) (v : Value) (W : World) (h : u ≠ 3) : (Instr.typeAssert (.iface u v) 20 3 true).run Tryz.prog W = .ok (.tuple #[.int .i64 0, .bool false]) W := by
  have e : (Instr.typeAssert (.iface u v) 20 3 true).run Tryz.prog W = (if u = 3 then (pure (Value.tuple #[v, .bool true]) : Sem Value) else (do pure (Value.tuple #[← zeroValue 3, .bool false]))).run Tryz.prog W := by kernel_rfl
  rw [e, if_neg h]
  exact ta_int_zero W
@[go_sem] theorem ta_int_bool (v : Value) (W : World) : (Instr.typeAssert (.iface 4 v) 20 3 true).run Tryz.prog W = .ok (.tuple #[.int .i64 0, .bool false]) W := ta_int_no _ v W (by decide)
@[go_sem] theorem ta_int_float64 (v : Value) (W : World) : (Instr.typeAssert (.iface 65 v) 20 3 true).run Tryz.prog W = .ok (.tuple #[.int .i64 0, .bool false]) W := ta_int_no _ v W (by decide)
@[go_sem] theorem ta_int_string (v : Value) (W : World) : (Instr.typeAssert (.iface 9 v) 20 3 true).run Tryz.prog W = .ok (.tuple #[.int .i64 0, .bool false]) W := ta_int_no _ v W (by decide)
@[go_sem] theorem ta_int_list (v : Value) (W : World) : (Instr.typeAssert (.iface 66 v) 20 3 true).run Tryz.prog W = .ok (.tuple #[.int .i64 0, .bool false]) W := ta_int_no _ v W (by decide)
@[go_sem] theorem ta_int_map (v : Value) (W : World) : (Instr.typeAssert (.iface 69 v) 20 3 true).run Tryz.prog W = .ok (.tuple #[.int .i64 0, .bool false]) W := ta_int_no _ v W (by decide)
@[go_sem] theorem ta_int_func0TypeError (v : Value) (W : World) : (Instr.typeAssert (.iface 126 v) 20 3 true).run Tryz.prog W = .ok (.tuple #[.int .i64 0, .bool false]) W := ta_int_no _ v W (by decide)
@[go_sem] theorem ta_int_formatRowError (v : Value) (W : World) : (Instr.typeAssert (.iface 129 v) 20 3 true).run Tryz.prog W = .ok (.tuple #[.int .i64 0, .bool false]) W := ta_int_no _ v W (by decide)
theorem ta_float64_zero (W : World) : (do pure (Value.tuple #[← zeroValue 65, .bool false]) : Sem Value).run Tryz.prog W = .ok (.tuple #[.float .f64 0, .bool false]) W := by kernel_rfl
@[go_sem] theorem ta_float64_yes (v : Value) (W : World) : (Instr.typeAssert (.iface 65 v) 20 65 true).run Tryz.prog W = .ok (.tuple #[v, .bool true]) W := by kernel_rfl
@[go_sem] theorem ta_float64_nil (W : World) : (Instr.typeAssert .nilIface 20 65 true).run Tryz.prog W = .ok (.tuple #[.float .f64 0, .bool false]) W := by kernel_rfl
theorem ta_float64_no (u : TypeId) (v : Value) (W : World) (h : u ≠ 65) : (Instr.typeAssert (.iface u v) 20 65 true).run Tryz.prog W = .ok (.tuple #[.float .f64 0, .bool false]) W := by
  have e : (Instr.typeAssert (.iface u v) 20 65 true).run Tryz.prog W = (if u = 65 then (pure (Value.tuple #[v, .bool true]) : Sem Value) else (do pure (Value.tuple #[← zeroValue 65, .bool false]))).run Tryz.prog W := by kernel_rfl
  rw [e, if_neg h]
  exact ta_float64_zero W
@[go_sem] theorem ta_float64_bool (v : Value) (W : World) : (Instr.typeAssert (.iface 4 v) 20 65 true).run Tryz.prog W = .ok (.tuple #[.float .f64 0, .bool false]) W := ta_float64_no _ v W (by decide)
@[go_sem] theorem ta_float64_int (v : Value) (W : World) : (Instr.typeAssert (.iface 3 v) 20 65 true).run Tryz.prog W = .ok (.tuple #[.float .f64 0, .bool false]) W := ta_float64_no _ v W (by decide)
@[go_sem] theorem ta_float64_string (v : Value) (W : World) : (Instr.typeAssert (.iface 9 v) 20 65 true).run Tryz.prog W = .ok (.tuple #[.float .f64 0, .bool false]) W := ta_float64_no _ v W (by decide)
@[go_sem] theorem ta_float64_list (v : Value) (W : World) : (Instr.typeAssert (.iface 66 v) 20 65 true).run Tryz.prog W = .ok (.tuple #[.float .f64 0, .bool false]) W := ta_float64_no _ v W (by decide)
@[go_sem] theorem ta_float64_map (v : Value) (W : World) : (Instr.typeAssert (.iface 69 v) 20 65 true).run Tryz.prog W = .ok (.tuple #[.float .f64 0, .bool false]) W := ta_float64_no _ v W (by decide)
@[go_sem] theorem ta_float64_func0TypeError (v : Value) (W : World) : (Instr.typeAssert (.iface 126 v) 20 65 true).run Tryz.prog W = .ok (.tuple #[.float .f64 0, .bool false]) W := ta_float64_no _ v W (by decide)
@[go_sem] theorem ta_float64_formatRowError (v : Value) (W : World) : (Instr.typeAssert (.iface 129 v) 20 65 true).run Tryz.prog W = .ok (.tuple #[.float .f64 0, .bool false]) W := ta_float64_no _ v W (by decide)
theorem ta_string_zero (W : World) : (do pure (Value.tuple #[← zeroValue 9, .bool false]) : Sem Value).run Tryz.prog W = .ok (.tuple #[.string ⟨#[]⟩, .bool false]) W := by kernel_rfl
@[go_sem] theorem ta_string_yes (v : Value) (W : World) : (Instr.typeAssert (.iface 9 v) 20 9 true).run Tryz.prog W = .ok (.tuple #[v, .bool true]) W := by kernel_rfl
@[go_sem] theorem ta_string_nil (W : World) : (Instr.typeAssert .nilIface 20 9 true).run Tryz.prog W = .ok (.tuple #[.string ⟨#[]⟩, .bool false]) W := by kernel_rfl
theorem ta_string_no (u : TypeId) (v : Value) (W : World) (h : u ≠ 9) : (Instr.typeAssert (.iface u v) 20 9 true).run Tryz.prog W = .ok (.tuple #[.string ⟨#[]⟩, .bool false]) W := by
  have e : (Instr.typeAssert (.iface u v) 20 9 true).run Tryz.prog W = (if u = 9 then (pure (Value.tuple #[v, .bool true]) : Sem Value) else (do pure (Value.tuple #[← zeroValue 9, .bool false]))).run Tryz.prog W := by kernel_rfl
  rw [e, if_neg h]
  exact ta_string_zero W
@[go_sem] theorem ta_string_bool (v : Value) (W : World) : (Instr.typeAssert (.iface 4 v) 20 9 true).run Tryz.prog W = .ok (.tuple #[.string ⟨#[]⟩, .bool false]) W := ta_string_no _ v W (by decide)
@[go_sem] theorem ta_string_int (v : Value) (W : World) : (Instr.typeAssert (.iface 3 v) 20 9 true).run Tryz.prog W = .ok (.tuple #[.string ⟨#[]⟩, .bool false]) W := ta_string_no _ v W (by decide)
@[go_sem] theorem ta_string_float64 (v : Value) (W : World) : (Instr.typeAssert (.iface 65 v) 20 9 true).run Tryz.prog W = .ok (.tuple #[.string ⟨#[]⟩, .bool false]) W := ta_string_no _ v W (by decide)
@[go_sem] theorem ta_string_list (v : Value) (W : World) : (Instr.typeAssert (.iface 66 v) 20 9 true).run Tryz.prog W = .ok (.tuple #[.string ⟨#[]⟩, .bool false]) W := ta_string_no _ v W (by decide)
@[go_sem] theorem ta_string_map (v : Value) (W : World) : (Instr.typeAssert (.iface 69 v) 20 9 true).run Tryz.prog W = .ok (.tuple #[.string ⟨#[]⟩, .bool false]) W := ta_string_no _ v W (by decide)
@[go_sem] theorem ta_string_func0TypeError (v : Value) (W : World) : (Instr.typeAssert (.iface 126 v) 20 9 true).run Tryz.prog W = .ok (.tuple #[.string ⟨#[]⟩, .bool false]) W := ta_string_no _ v W (by decide)
@[go_sem] theorem ta_string_formatRowError (v : Value) (W : World) : (Instr.typeAssert (.iface 129 v) 20 9 true).run Tryz.prog W = .ok (.tuple #[.string ⟨#[]⟩, .bool false]) W := ta_string_no _ v W (by decide)
theorem ta_list_zero (W : World) : (do pure (Value.tuple #[← zeroValue 66, .bool false]) : Sem Value).run Tryz.prog W = .ok (.tuple #[.slice none 0 0, .bool false]) W := by kernel_rfl
@[go_sem] theorem ta_list_yes (v : Value) (W : World) : (Instr.typeAssert (.iface 66 v) 20 66 true).run Tryz.prog W = .ok (.tuple #[v, .bool true]) W := by kernel_rfl
@[go_sem] theorem ta_list_nil (W : World) : (Instr.typeAssert .nilIface 20 66 true).run Tryz.prog W = .ok (.tuple #[.slice none 0 0, .bool false]) W := by kernel_rfl
theorem ta_list_no (u : TypeId) (v : Value) (W : World) (h : u ≠ 66) : (Instr.typeAssert (.iface u v) 20 66 true).run Tryz.prog W = .ok (.tuple #[.slice none 0 0, .bool false]) W := by
  have e : (Instr.typeAssert (.iface u v) 20 66 true).run Tryz.prog W = (if u = 66 then (pure (Value.tuple #[v, .bool true]) : Sem Value) else (do pure (Value.tuple #[← zeroValue 66, .bool false]))).run Tryz.prog W := by kernel_rfl
  rw [e, if_neg h]
  exact ta_list_zero W
@[go_sem] theorem ta_list_bool (v : Value) (W : World) : (Instr.typeAssert (.iface 4 v) 20 66 true).run Tryz.prog W = .ok (.tuple #[.slice none 0 0, .bool false]) W := ta_list_no _ v W (by decide)
@[go_sem] theorem ta_list_int (v : Value) (W : World) : (Instr.typeAssert (.iface 3 v) 20 66 true).run Tryz.prog W = .ok (.tuple #[.slice none 0 0, .bool false]) W := ta_list_no _ v W (by decide)
@[go_sem] theorem ta_list_float64 (v : Value) (W : World) : (Instr.typeAssert (.iface 65 v) 20 66 true).run Tryz.prog W = .ok (.tuple #[.slice none 0 0, .bool false]) W := ta_list_no _ v W (by decide)
@[go_sem] theorem ta_list_string (v : Value) (W : World) : (Instr.typeAssert (.iface 9 v) 20 66 true).run Tryz.prog W = .ok (.tuple #[.slice none 0 0, .bool false]) W := ta_list_no _ v W (by decide)
@[go_sem] theorem ta_list_map (v : Value) (W : World) : (Instr.typeAssert (.iface 69 v) 20 66 true).run Tryz.prog W = .ok (.tuple #[.slice none 0 0, .bool false]) W := ta_list_no _ v W (by decide)
@[go_sem] theorem ta_list_func0TypeError (v : Value) (W : World) : (Instr.typeAssert (.iface 126 v) 20 66 true).run Tryz.prog W = .ok (.tuple #[.slice none 0 0, .bool false]) W := ta_list_no _ v W (by decide)
@[go_sem] theorem ta_list_formatRowError (v : Value) (W : World) : (Instr.typeAssert (.iface 129 v) 20 66 true).run Tryz.prog W = .ok (.tuple #[.slice none 0 0, .bool false]) W := ta_list_no _ v W (by decide)
theorem ta_map_zero (W : World) : (do pure (Value.tuple #[← zeroValue 69, .bool false]) : Sem Value).run Tryz.prog W = .ok (.tuple #[.map none, .bool false]) W := by kernel_rfl
@[go_sem] theorem ta_map_yes (v : Value) (W : World) : (Instr.typeAssert (.iface 69 v) 20 69 true).run Tryz.prog W = .ok (.tuple #[v, .bool true]) W := by kernel_rfl
@[go_sem] theorem ta_map_nil (W : World) : (Instr.typeAssert .nilIface 20 69 true).run Tryz.prog W = .ok (.tuple #[.map none, .bool false]) W := by kernel_rfl
theorem ta_map_no (u : TypeId) (v : Value) (W : World) (h : u ≠ 69) : (Instr.typeAssert (.iface u v) 20 69 true).run Tryz.prog W = .ok (.tuple #[.map none, .bool false]) W := by
  have e : (Instr.typeAssert (.iface u v) 20 69 true).run Tryz.prog W = (if u = 69 then (pure (Value.tuple #[v, .bool true]) : Sem Value) else (do pure (Value.tuple #[← zeroValue 69, .bool false]))).run Tryz.prog W := by kernel_rfl
  rw [e, if_neg h]
  exact ta_map_zero W
@[go_sem] theorem ta_map_bool (v : Value) (W : World) : (Instr.typeAssert (.iface 4 v) 20 69 true).run Tryz.prog W = .ok (.tuple #[.map none, .bool false]) W := ta_map_no _ v W (by decide)
@[go_sem] theorem ta_map_int (v : Value) (W : World) : (Instr.typeAssert (.iface 3 v) 20 69 true).run Tryz.prog W = .ok (.tuple #[.map none, .bool false]) W := ta_map_no _ v W (by decide)
@[go_sem] theorem ta_map_float64 (v : Value) (W : World) : (Instr.typeAssert (.iface 65 v) 20 69 true).run Tryz.prog W = .ok (.tuple #[.map none, .bool false]) W := ta_map_no _ v W (by decide)
@[go_sem] theorem ta_map_string (v : Value) (W : World) : (Instr.typeAssert (.iface 9 v) 20 69 true).run Tryz.prog W = .ok (.tuple #[.map none, .bool false]) W := ta_map_no _ v W (by decide)
@[go_sem] theorem ta_map_list (v : Value) (W : World) : (Instr.typeAssert (.iface 66 v) 20 69 true).run Tryz.prog W = .ok (.tuple #[.map none, .bool false]) W := ta_map_no _ v W (by decide)
@[go_sem] theorem ta_map_func0TypeError (v : Value) (W : World) : (Instr.typeAssert (.iface 126 v) 20 69 true).run Tryz.prog W = .ok (.tuple #[.map none, .bool false]) W := ta_map_no _ v W (by decide)
@[go_sem] theorem ta_map_formatRowError (v : Value) (W : World) : (Instr.typeAssert (.iface 129 v) 20 69 true).run Tryz.prog W = .ok (.tuple #[.map none, .bool false]) W := ta_map_no _ v W (by decide)
@[go_sem] theorem ta_error_nil (W : World) : (Instr.typeAssert .nilIface 20 81 true).run Tryz.prog W = .ok (.tuple #[.nilIface, .bool false]) W := by kernel_rfl
@[go_sem] theorem ta_error_bool (v : Value) (W : World) : (Instr.typeAssert (.iface 4 v) 20 81 true).run Tryz.prog W = .ok (.tuple #[.nilIface, .bool false]) W := run_typeAssert_lacksB Tryz.underlying81 (by kernel_rfl) (by kernel_rfl) v _ W
@[go_sem] theorem ta_error_int (v : Value) (W : World) : (Instr.typeAssert (.iface 3 v) 20 81 true).run Tryz.prog W = .ok (.tuple #[.nilIface, .bool false]) W := run_typeAssert_lacksB Tryz.underlying81 (by kernel_rfl) (by kernel_rfl) v _ W
@[go_sem] theorem ta_error_float64 (v : Value) (W : World) : (Instr.typeAssert (.iface 65 v) 20 81 true).run Tryz.prog W = .ok (.tuple #[.nilIface, .bool false]) W := run_typeAssert_lacksB Tryz.underlying81 (by kernel_rfl) (by kernel_rfl) v _ W
@[go_sem] theorem ta_error_string (v : Value) (W : World) : (Instr.typeAssert (.iface 9 v) 20 81 true).run Tryz.prog W = .ok (.tuple #[.nilIface, .bool false]) W := run_typeAssert_lacksB Tryz.underlying81 (by kernel_rfl) (by kernel_rfl) v _ W
@[go_sem] theorem ta_error_list (v : Value) (W : World) : (Instr.typeAssert (.iface 66 v) 20 81 true).run Tryz.prog W = .ok (.tuple #[.nilIface, .bool false]) W := run_typeAssert_lacksB Tryz.underlying81 (by kernel_rfl) (by kernel_rfl) v _ W
@[go_sem] theorem ta_error_map (v : Value) (W : World) : (Instr.typeAssert (.iface 69 v) 20 81 true).run Tryz.prog W = .ok (.tuple #[.nilIface, .bool false]) W := run_typeAssert_lacksB Tryz.underlying81 (by kernel_rfl) (by kernel_rfl) v _ W
@[go_sem] theorem ta_error_func0TypeError (v : Value) (W : World) : (Instr.typeAssert (.iface 126 v) 20 81 true).run Tryz.prog W = .ok (.tuple #[.iface 126 v, .bool true]) W := run_typeAssert_hasB Tryz.underlying81 (by kernel_rfl) v _ W
@[go_sem] theorem ta_error_formatRowError (v : Value) (W : World) : (Instr.typeAssert (.iface 129 v) 20 81 true).run Tryz.prog W = .ok (.tuple #[.iface 129 v, .bool true]) W := run_typeAssert_hasB Tryz.underlying81 (by kernel_rfl) v _ W
@[go_sem] theorem eql_nil_nil (W : World) : (binOp .eql 20 .nilIface .nilIface).run Tryz.prog W = .ok (.bool true) W := by kernel_rfl
@[go_sem] theorem eql_iface_nil (u : TypeId) (v : Value) (W : World) : (binOp .eql 20 (.iface u v) .nilIface).run Tryz.prog W = .ok (.bool false) W := by kernel_rfl
end Go.Proofs.YtpigccnlembfdaaGreatDoor

/- Appends into a row that begins inside a block. Conditions: as each theorem states. -/
namespace Go.Proofs.YtpigccnlembfdaaGreatDoor
open Go.RowKit

theorem run_append_into {P : Program} (w : World) (t u ty : TypeId) (e T : TypeId) (i : TypeInfo) (ht : P.underlying t = some (.slice e)) (hu : P.underlying u = some .string) (hi : P.info? e = some i) (hs1 : i.size = 1)
    (g sCap : Nat) (cur : Array Value) (hg : w.heap[g]? = some (.cells cur T (0, 0))) (s : ByteArray) (hroom : s.size ≤ sCap) (hfit : 1 + s.size ≤ cur.size) :
    (Builtin.append_ #[t, u] ty #[.slice (some ⟨g, 1, none⟩) 0 sCap, .string s]).run P w =
      .ok (.slice (some ⟨g, 1, none⟩) s.size sCap) (w.setRow g (cur.toList.take 1 ++ Lib.strCells s ++ cur.toList.drop (1 + s.size)).toArray) := by
  have hf := Lib.run_firstCells_string (P := P) w 1 s
  have hst := run_storeCells_at P g 1 T (Lib.strCells s) 0 cur w hg (by simpa [Lib.strCells_length] using hfit) (Lib.strCells_oneCell s)
  simp only [Nat.add_zero, Lib.strCells_length] at hst
  have ha : (⟨g, 1, none⟩ : Addr).add 0 = ⟨g, 1, none⟩ := by unfold Addr.add; split <;> simp_all
  simp [Builtin.append_, run_underlying ht, run_underlying hu, sizeOf, typeInfo, hi, hs1, Builtin.lenOf, hroom, hf, ha, hst]

theorem wpList_append_ran {P : Program} {w : World} {ops : Array Oper} {rest : List Oper} {o : Oper} {a : Act} {Q : Exit → Act → World → Prop} (hgd : o.guard = none) (sl x : Operand) (t u : TypeId)
    (ho : o.op = .call { callee := .builtin .append, args := #[sl, x], argTypes := #[t, u] }) (v vx v' : Value) (w' : World) (hs : a.eval sl = v) (hx : a.eval x = vx)
    (hr : (Builtin.append_ #[t, u] o.type #[v, vx]).run P w = .ok v' w') (h : wpList P ops Q rest (a.put o.dst v') w') : wpList P ops Q (o :: rest) a w := by
  refine wpList_plain hgd fun K hK => ?_
  unfold Oper.wp execOp
  simp only [ho, resolve, invoke, builtin, Sem.run_bind, Sem.run_pure, Result.andThen_ok, List.map_toArray, List.map_cons, List.map_nil, hs, hx, hr]
  exact hK _ _ h

theorem strCells_strL (l : List UInt8) : Lib.strCells (strL l) = Lib.byteCells l := by simp [Lib.strCells, Lib.byteCells, strL]
theorem itoa_len (x : Int) (h0 : -9223372036854775808 < x) (h1 : x < 9223372036854775808) : (Lib.itoa x).length ≤ 64 := by
  unfold Lib.itoa
  have := dec_length 19 x.natAbs (by omega)
  have := dec_length 19 x.toNat (by omega)
  split <;> simp <;> omega
end Go.Proofs.YtpigccnlembfdaaGreatDoor

/- What a call leaves that turns nothing; the text of a half. Conditions: none. -/
namespace Go.Proofs.YtpigccnlembfdaaGreatDoor
open Go.RowKit

def Same0 (w : World) (v : Value) (e : Ending) (w' : World) : Prop := e = .returned v ∧ Below w.heap.size w w'
theorem below2 (w : World) (o1 o2 : Obj) : Below w.heap.size w ((w.alloc o1).alloc o2) := ((Below.refl _ _).alloc (Nat.le_refl _) _).alloc (by simp) _
theorem below1 (w : World) (o1 : Obj) : Below w.heap.size w (w.alloc o1) := (Below.refl _ _).alloc (Nat.le_refl _) _
theorem half_of {h : Int} (h1 : -18014398509481984 ≤ h) (h2 : h ≤ 18014398509481984) : -9223372036854775808 < h.tdiv 2 ∧ h.tdiv 2 < 9223372036854775808 := by
  have := Int.tdiv_mul_add_tmod h 2 |>.symm
  have h3 := Int.tmod_lt_of_pos h (show (0 : Int) < 2 by decide)
  have h4 : -2 < h.tmod 2 := by
    have := Int.lt_tmod_of_pos h (show (0 : Int) < 2 by decide)
    omega
  omega
/-- The text of a half: half is odd. -/
def halfText (h : Int) : List UInt8 := (if h < 0 then [45] else []) ++ (wholeD (h.natAbs / 2) ++ [46, 53])
end Go.Proofs.YtpigccnlembfdaaGreatDoor

/- The bits of halves: how they compare, math.IsNaN and math.Abs at them. Conditions: as each theorem states. -/
namespace Go.Proofs.YtpigccnlembfdaaGreatDoor
open Go.RowKit

section
open Ieee Datum
theorem order_of {x y : Nat} {s t : Bool} {m n : Nat} {i j : Int} (hx : double.read x = .number s m i) (hy : double.read y = .number t n j) : double.order x y = some (compare (signed s m (i - min i j).toNat) (signed t n (j - min i j).toNat)) := by
  unfold Format.order; rw [hx, hy]; rfl
theorem cmp_lt {a b : Int} (h : a < b) : compare a b = .lt := by
  unfold compare instOrdInt; simp only [compareOfLessAndEq, if_pos h]
theorem cmp_gt {a b : Int} (h : b < a) : compare a b = .gt := by
  unfold compare instOrdInt; simp only [compareOfLessAndEq]; rw [if_neg (by omega), if_neg (by omega)]
theorem cmp_eq {a : Int} : compare a a = .eq := by
  unfold compare instOrdInt; simp [compareOfLessAndEq]
theorem shl_big (m k : Nat) (hm : 4503599627370496 ≤ m) (hk : 1 ≤ k) : 9007199254740992 ≤ m <<< k := by
  rw [Nat.shiftLeft_eq]
  have : 2 ^ 1 ≤ 2 ^ k := Nat.pow_le_pow_right (by decide) hk
  have := Nat.mul_le_mul hm this
  omega
structure HalfF (b : Nat) (neg : Bool) (s : Nat) (i : Int) : Prop where
  read : double.read b = .number neg s i
  s1 : 4503599627370496 ≤ s
  s2 : s < 9007199254740992
  i0 : -53 ≤ i
  i1 : i ≤ -1
variable {b s : Nat} {neg : Bool} {i : Int}
theorem HalfF.self (h : HalfF b neg s i) : FloatKind.f64.format.order b b = some .eq := (order_of h.read h.read).trans (by rw [cmp_eq])
theorem signed_le (neg : Bool) (m : Nat) : -(m : Int) ≤ signed neg m 0 ∧ signed neg m 0 ≤ m := by
  unfold signed; cases neg <;> simp <;> omega
theorem HalfF.low (h : HalfF b neg s i) : FloatKind.f64.format.order b 18442240474082181119 = some .gt := by
  refine (order_of h.read (show double.read 18442240474082181119 = .number true 9007199254740991 971 by decide)).trans (congrArg some ?_)
  have h1 := h.i1
  have h2 := h.i0
  rw [show min i 971 = i by omega, show (i - i).toNat = 0 by omega]
  have h3 := shl_big 9007199254740991 (971 - i).toNat (by decide) (by omega)
  have h4 := signed_le neg s
  have h5 := h.s2
  refine cmp_gt ?_
  show -((9007199254740991 <<< (971 - i).toNat : Nat) : Int) < _
  omega
theorem HalfF.high (h : HalfF b neg s i) : FloatKind.f64.format.order b 9218868437227405311 = some .lt := by
  refine (order_of h.read (show double.read 9218868437227405311 = .number false 9007199254740991 971 by decide)).trans (congrArg some ?_)
  have h1 := h.i1
  have h2 := h.i0
  rw [show min i 971 = i by omega, show (i - i).toNat = 0 by omega]
  have h3 := shl_big 9007199254740991 (971 - i).toNat (by decide) (by omega)
  have h4 := signed_le neg s
  have h5 := h.s2
  refine cmp_lt ?_
  show _ < ((9007199254740991 <<< (971 - i).toNat : Nat) : Int)
  omega
theorem HalfF.zero (h : HalfF b false s i) : FloatKind.f64.format.order b 0 = some .gt := by
  refine (order_of h.read (show double.read 0 = .number false 0 (-1074) by decide)).trans (congrArg some ?_)
  have h1 := h.i1
  have h2 := h.i0
  rw [show min i (-1074) = -1074 by omega]
  have h3 := shl_big s (i - -1074).toNat h.s1 (by omega)
  refine cmp_gt ?_
  show ((0 <<< ((-1074 : Int) - -1074).toNat : Nat) : Int) < ((s <<< (i - -1074).toNat : Nat) : Int)
  simp only [Nat.zero_shiftLeft]
  omega
theorem HalfF.small (h : HalfF b false s i) : FloatKind.f64.format.order b 4517329193108106637 = some .gt := by
  refine (order_of h.read (show double.read 4517329193108106637 = .number false 4722366482869645 (-72) by decide)).trans (congrArg some ?_)
  have h1 := h.i1
  have h2 := h.i0
  rw [show min i (-72) = -72 by omega]
  have h3 := shl_big s (i - -72).toNat h.s1 (by omega)
  refine cmp_gt ?_
  show ((4722366482869645 <<< ((-72 : Int) - -72).toNat : Nat) : Int) < ((s <<< (i - -72).toNat : Nat) : Int)
  rw [show ((-72 : Int) - -72).toNat = 0 by decide, Nat.shiftLeft_zero]
  omega
theorem HalfF.great (h : HalfF b false s i) : FloatKind.f64.format.order b 4921056587992461136 = some .lt := by
  refine (order_of h.read (show double.read 4921056587992461136 = .number false 7629394531250000 17 by decide)).trans (congrArg some ?_)
  have h1 := h.i1
  have h2 := h.i0
  have h5 := h.s2
  rw [show min i 17 = i by omega, show (i - i).toNat = 0 by omega]
  have h3 := shl_big 7629394531250000 (17 - i).toNat (by decide) (by omega)
  refine cmp_lt ?_
  show ((s <<< 0 : Nat) : Int) < ((7629394531250000 <<< (17 - i).toNat : Nat) : Int)
  rw [Nat.shiftLeft_zero]
  omega
theorem HalfF.max (h : HalfF b neg s i) (w : World) (P : Program) : (Builtin.max_ #[65, 65] 65 #[.float .f64 b, .float .f64 18442240474082181119]).run P w = .ok (.float .f64 b) w := by
  simp [Builtin.max_, Builtin.max2, h.low]
theorem HalfF.min (h : HalfF b neg s i) (w : World) (P : Program) : (Builtin.min_ #[65, 65] 65 #[.float .f64 b, .float .f64 9218868437227405311]).run P w = .ok (.float .f64 b) w := by
  simp [Builtin.min_, Builtin.min2, h.high]
end
/-- A half's bits: its word, and how it reads. -/
structure HalfW (b s E mant : Nat) : Prop where
  word : Word64 b s E mant
  half : HalfF b (decide (s = 1)) mant ((E : Int) - 1075)
  abs : HalfF (b - s * 9223372036854775808) false mant ((E : Int) - 1075)
theorem fbits_eq (neg : Bool) (s : Nat) (i : Int) : fbits neg s i = neg.toNat * 9223372036854775808 + ((i + 1074).toNat * 4503599627370496 + s) := by
  unfold fbits Ieee.Format.word
  obtain ⟨k, hk⟩ : ∃ k : Nat, (i + 1074).toNat = k := ⟨_, rfl⟩
  rw [hk]
  cases neg
  · simp
  · simp
    decide
theorem halfW_of (neg : Bool) (s : Nat) (k : Nat) (h1 : 4503599627370496 ≤ s) (h2 : s < 9007199254740992) (hk1 : 1 ≤ k) (hk : k ≤ 53) : HalfW (fbits neg s (-(k : Int))) neg.toNat (1075 - k) s := by
  have hr : ∀ neg, HalfF (fbits neg s (-(k : Int))) neg s (-(k : Int)) := fun neg => ⟨read_fbits neg s _ h1 h2 (by omega) (by omega), h1, h2, by omega, by omega⟩
  have e : ((1075 - k : Nat) : Int) - 1075 = -(k : Int) := by omega
  have e0 := fbits_eq false s (-(k : Int))
  have e1 := fbits_eq neg s (-(k : Int))
  refine ⟨⟨?_, by cases neg <;> decide, by omega, by omega, h1, h2⟩, ?_, ?_⟩
  · rw [e1]; omega
  · rw [e]
    have : decide (neg.toNat = 1) = neg := by cases neg <;> rfl
    rw [this]; exact hr neg
  · rw [e]
    have : fbits neg s (-(k : Int)) - neg.toNat * 9223372036854775808 = fbits false s (-(k : Int)) := by rw [e0, e1]; simp
    rw [this]; exact hr false
theorem Word64.abs {b s E mant : Nat} (h : Word64 b s E mant) : bits .andNot .u64 (b : Int) 9223372036854775808 = ((b - s * 9223372036854775808 : Nat) : Int) := by
  have hb := h.lt
  have h1 : (BitVec.ofInt 64 (b : Int)).toNat = b := by
    rw [BitVec.ofInt_natCast, BitVec.toNat_ofNat]; exact Nat.mod_eq_of_lt (by omega)
  have h2 : (~~~ BitVec.ofInt 64 9223372036854775808).toNat = 9223372036854775807 := by decide
  have h3 : b &&& 9223372036854775807 = b % 2 ^ 63 := Nat.and_two_pow_sub_one_eq_mod b 63
  show IntKind.u64.wrap ((BitVec.ofInt 64 (b : Int) &&& ~~~ BitVec.ofInt 64 9223372036854775808).toNat : Int) = _
  rw [BitVec.toNat_and, h1, h2, h3, IntKind.wrap_u64]
  obtain ⟨rfl, h1, h2, h3, h4, h5⟩ := h
  omega
set_option maxRecDepth 100000 in
theorem isNaN_any (w : World) (b s E mant : Nat) (h : HalfW b s E mant) : Calls Tryz.prog 82 #[.float .f64 b] w (fun e w' => e = .returned (.bool false) ∧ w' = w) := by
  have hs := h.half.self
  clear h
  go_enter Tryz.func82, Tryz.ntmps82
  go_wp2_with fail
  go_ret
  exact ⟨rfl, rfl⟩
set_option maxRecDepth 100000 in
theorem abs_any (w : World) (b s E mant : Nat) (h : HalfW b s E mant) : Calls Tryz.prog 83 #[.float .f64 b] w (fun e w' => e = .returned (.float .f64 (b - s * 9223372036854775808 : Nat)) ∧ w' = w) := by
  have hfb := fun w' => run_fbits b w'
  have ha := h.word.abs
  obtain ⟨c, hc⟩ : ∃ c, c = b - s * 9223372036854775808 := ⟨_, rfl⟩
  rw [← hc] at ha ⊢
  have hfc := fun w' => run_fromBits c w'
  clear h hc
  go_enter Tryz.func83, Tryz.ntmps83
  go_wp2_with fail
  go_ret
  exact ⟨rfl, rfl⟩
theorem into_cells {w : World} {E : Nat} {v : Value} {S : List UInt8} {r : List Value} {t : TypeId} (h : w.heap[E]? = some (.cells (v :: (Lib.byteCells S ++ r)).toArray t (0, 0))) : ∀ j u, (Lib.byteCells S)[j]? = some u → w.cell? ((⟨E, 1, none⟩ : Addr).add j) = some u := fun j u hj => by
  rw [show (⟨E, 1, none⟩ : Addr).add j = ⟨E, j + 1, none⟩ by unfold Addr.add; split <;> simp_all [Nat.add_comm]]
  rw [cell_of_row w E (j + 1) _ _ _ h]
  have hlt := (List.getElem?_eq_some_iff.1 hj).1
  rw [List.getElem?_toArray, List.getElem?_cons_succ, List.getElem?_append_left hlt]
  exact hj
theorem byteCells_one (S : List UInt8) : ∀ u ∈ Lib.byteCells S, u.oneCell' = true := fun u hu => by
  obtain ⟨_, _, rfl⟩ := List.mem_map.1 hu; rfl
end Go.Proofs.YtpigccnlembfdaaGreatDoor

/- The walks of spec.digits and spec.figures. Conditions: as each theorem states. -/
namespace Go.Proofs.YtpigccnlembfdaaGreatDoor
open Go.RowKit

theorem byte_at {s : ByteArray} {q : Nat} (hlt : q < s.size) : ∃ c, s.data.toList[q]? = some c ∧ s[q]'hlt = c := by
  have hl : q < s.data.toList.length := by have : s.data.toList.length = s.size := by simp
                                           omega
  refine ⟨_, List.getElem?_eq_getElem hl, ?_⟩
  simp; rfl
theorem enc_digit (d : Nat) (hd : d < 10) : Utf8.encode (48 + (d : Int)) = strL [dByte d] := by
  have hds : d = 0 ∨ d = 1 ∨ d = 2 ∨ d = 3 ∨ d = 4 ∨ d = 5 ∨ d = 6 ∨ d = 7 ∨ d = 8 ∨ d = 9 := by omega
  rcases hds with rfl | rfl | rfl | rfl | rfl | rfl | rfl | rfl | rfl | rfl <;> rfl
theorem strL_app (a b : List UInt8) : strL a ++ strL b = strL (a ++ b) := by
  apply ByteArray.ext
  simp [strL, ByteArray.data_append]
set_option maxRecDepth 100000 in
set_option maxHeartbeats 1000000 in
theorem digits_any (w : World) (n : Nat) (hn : n ≤ 1000000000000000) :
    Calls Tryz.prog 32 #[.int .i64 n] w (Same0 w (.string (strL (Lib.decDigits n)))) := by
  have hl16 : (Lib.decDigits n).length ≤ 16 := dec_length 15 n (by omega)
  go_enter Tryz.func32, Tryz.ntmps32
  go_wp2_with fail
  go_loopw [0, 3] (fun nv tv wr => ∃ (m : Nat) (sfx : List UInt8), nv = .int .i64 m ∧ tv = .string (strL sfx) ∧ m ≤ n ∧ Hid (Lib.decDigits m ++ sfx = Lib.decDigits n ∧ Below w.heap.size w wr)) (fun nv _ _ => (intOf nv).toNat)
  case atStart => exact ⟨n, [], rfl, rfl, Nat.le_refl _, Lib.hid ⟨by simp, Below.refl _ _⟩⟩
  case round =>
    obtain ⟨m, sfx, rfl, rfl, hm, HF⟩ := hrel
    have hsl : sfx.length ≤ 16 := by have := congrArg List.length HF.out.1; rw [List.length_append] at this; omega
    have hsz : (strL sfx).size ≤ 16 := by rw [strL_size]; exact hsl
    by_cases h10 : m < 10
    · have hlt : ¬ (10 : Int) ≤ (m : Int) := by omega
      obtain ⟨T, hT⟩ : ∃ T, T = strL sfx := ⟨_, rfl⟩
      rw [← hT] at hsz ⊢
      obtain ⟨E, hE⟩ : ∃ E, E = strL [dByte m] := ⟨_, rfl⟩
      have henc := enc_digit m h10
      rw [← hE] at henc
      have hEs : E.size = 1 := by rw [hE]; rfl
      have HX := Lib.hid (And.intro hT hE)
      clear hT hE
      go_wp2_with fail
      go_ret
      obtain ⟨h1, h2⟩ := HF.out
      refine ⟨?_, h2⟩
      rw [HX.out.1, HX.out.2, ← h1, dec_small h10, ← strL_app]
      rfl
    · obtain ⟨d, hd⟩ : ∃ d, d = m % 10 := ⟨_, rfl⟩
      have hdz : (m : Int) % 10 = (d : Int) := by omega
      have hd10 : d < 10 := by omega
      obtain ⟨q, hq⟩ : ∃ q, q = m / 10 := ⟨_, rfl⟩
      have hqz : (m : Int) / 10 = (q : Int) := by omega
      have hge : (10 : Int) ≤ (m : Int) := by omega
      have hqm : q < m := by omega
      obtain ⟨T, hT⟩ : ∃ T, T = strL sfx := ⟨_, rfl⟩
      rw [← hT] at hsz ⊢
      obtain ⟨E, hE⟩ : ∃ E, E = strL [dByte d] := ⟨_, rfl⟩
      have henc := enc_digit d hd10
      rw [← hE] at henc
      have hEs : E.size = 1 := by rw [hE]; rfl
      have HX := Lib.hid (And.intro hT hE)
      have HDQ := Lib.hid (And.intro hd (And.intro hq h10))
      clear hd hq hT hE h10
      go_wp2_with fail
      refine ⟨⟨q, dByte d :: sfx, rfl, ?_, by omega, Lib.hid ⟨?_, HF.out.2⟩⟩, by simp [intOf]; omega⟩
      · rw [HX.out.1, HX.out.2, strL_app]; rfl
      · rw [← HF.out.1, dec_big HDQ.out.2.2, HDQ.out.2.1, HDQ.out.1]; simp [dByte]
/-- The text of a half or a whole number, and whether there is one. -/
def figs (h : Int) : List UInt8 := if h.tmod 2 = 0 then Lib.itoa (h.tdiv 2) else halfText h
theorem wholeD_eq (N : Nat) : wholeD N = Lib.decDigits N := by
  unfold wholeD
  by_cases h : N = 0
  · subst h; rw [if_pos digN_zero, dec_small (by decide)]; rfl
  · rw [if_neg (digN_ne h), digN_map h]
theorem figs_even (n : Nat) (h : n % 2 = 0) : figs n = Lib.decDigits (n / 2) := by
  have e : (n : Int).tdiv 2 = ((n / 2 : Nat) : Int) := by rw [Int.tdiv_eq_ediv_of_nonneg (by omega)]; omega
  have e2 : (n : Int).tmod 2 = 0 := by rw [Int.tmod_eq_emod_of_nonneg (by omega)]; omega
  unfold figs
  rw [if_pos e2, e]
  unfold Lib.itoa
  rw [if_neg (by omega), Int.toNat_natCast]
theorem figs_odd (n : Nat) (h : ¬ n % 2 = 0) : figs n = Lib.decDigits (n / 2) ++ [46, 53] := by
  have e2 : ¬ (n : Int).tmod 2 = 0 := by rw [Int.tmod_eq_emod_of_nonneg (by omega)]; omega
  unfold figs
  rw [if_neg e2]
  unfold halfText
  rw [if_neg (by omega), wholeD_eq, Int.natAbs_natCast, List.nil_append]
theorem figs_neg (n : Nat) (hn : n ≠ 0) : figs (-(n : Int)) = 45 :: figs n := by
  unfold figs
  rw [Int.neg_tmod, Int.neg_tdiv]
  have e : (n : Int).tdiv 2 = ((n / 2 : Nat) : Int) := by rw [Int.tdiv_eq_ediv_of_nonneg (by omega)]; omega
  have e1 : (n : Int).tmod 2 = ((n % 2 : Nat) : Int) := by rw [Int.tmod_eq_emod_of_nonneg (by omega)]; omega
  rw [e, e1]
  by_cases h : n % 2 = 0
  · rw [if_pos (by omega), if_pos (by omega)]
    unfold Lib.itoa
    rw [if_pos (by omega), if_neg (by omega)]
    congr 2
    omega
  · rw [if_neg (by omega), if_neg (by omega)]
    unfold halfText
    rw [if_pos (by omega), if_neg (by omega)]
    simp
/-- What figures leaves: the text, or that it says nothing of this number. -/
def FigPost (m : Nat) (h : Int) (w : World) (e : Ending) (w' : World) : Prop := Below w.heap.size w w' ∧ (e = .returned (.tuple #[.string (strL (figs h)), .int .i64 0]) ∨ ∃ s : ByteArray, s.size ≤ m ∧ e = .returned (.tuple #[.string s, .int .i64 2]))
set_option maxRecDepth 100000 in
set_option maxHeartbeats 2000000 in
theorem figures_pos (w : World) (n : Nat) (hn : n ≤ 18014398509481984) : Calls Tryz.prog 19 #[.int .i64 n] w (FigPost 10 n w) := by
  by_cases hb : n / 2 ≤ 1000000000000000
  · have HD := Lib.hid (fun w' => digits_any w' (n / 2) hb)
    obtain ⟨q, hq⟩ : ∃ q, q = n / 2 := ⟨_, rfl⟩
    rw [← hq] at HD hb
    have hqz : (n : Int) / 2 = (q : Int) := by omega
    have hl16 : (strL (Lib.decDigits q)).size ≤ 16 := by rw [strL_size]; exact dec_length 15 q (by omega)
    obtain ⟨T, hT⟩ : ∃ T, T = strL (Lib.decDigits q) := ⟨_, rfl⟩
    rw [← hT] at HD hl16
    have HX := Lib.hid (And.intro hT hq)
    clear hT hq
    by_cases ho : n % 2 = 0
    · have hr : ((n : Int) % 2 != 0) = false := by rw [bne_eq_false_iff_eq]; omega
      have HO := Lib.hid ho
      clear ho
      go_enter Tryz.func19, Tryz.ntmps19
      go_wp2_with fail
      refine (HD.out _).mono ?_
      rintro e w2 ⟨rfl, hb2⟩
      go_wp2_with fail
      go_ret2
      refine ⟨hb2, Or.inl ?_⟩
      rw [figs_even n HO.out, ← HX.out.2, ← HX.out.1]; rfl
    · have hr : ((n : Int) % 2 != 0) = true := by rw [bne_iff_ne]; omega
      have HO := Lib.hid ho
      clear ho
      go_enter Tryz.func19, Tryz.ntmps19
      go_wp2_with fail
      refine (HD.out _).mono ?_
      rintro e w2 ⟨rfl, hb2⟩
      go_wp2_with fail
      go_ret2
      refine ⟨hb2, Or.inl ?_⟩
      rw [figs_odd n HO.out, ← HX.out.2, ← strL_app, ← HX.out.1]; rfl
  · have hgt : (1000000000000000 : Int) < (n : Int) / 2 := by omega
    go_enter Tryz.func19, Tryz.ntmps19
    go_wp2_with fail
    go_ret2
    exact ⟨Below.refl _ _, Or.inr ⟨_, by decide, rfl⟩⟩
set_option maxRecDepth 100000 in
set_option maxHeartbeats 2000000 in
theorem figures_any (w : World) (h : Int) (h0 : -18014398509481984 ≤ h) (h1 : h ≤ 18014398509481984) : Calls Tryz.prog 19 #[.int .i64 h] w (FigPost 100 h w) := by
  by_cases hn : h < 0
  · obtain ⟨n, rfl⟩ : ∃ n : Nat, h = -(n : Int) := ⟨h.natAbs, by omega⟩
    have HP := Lib.hid (fun w' => figures_pos w' n (by omega))
    have hneg : IntKind.i64.wrap (- -(n : Int)) = (n : Int) := by rw [IntWalk.i64_in _ (by omega)]; omega
    have hl : (figs n).length ≤ 64 := by
      unfold figs
      split
      · have hh := half_of (h := (n : Int)) (by omega) (by omega)
        exact itoa_len _ hh.1 hh.2
      · rename_i ho
        have hw : n % 2 ≠ 0 := fun he => ho (by rw [Int.tmod_eq_emod_of_nonneg (by omega)]; omega)
        unfold halfText
        rw [if_neg (by omega), wholeD_eq, Int.natAbs_natCast]
        have := dec_length 19 (n / 2) (by omega)
        simp; omega
    obtain ⟨T, hT⟩ : ∃ T, T = strL (figs n) := ⟨_, rfl⟩
    have hTs : T.size ≤ 64 := by rw [hT, strL_size]; exact hl
    have hn0 : n ≠ 0 := by omega
    have HT := Lib.hid (And.intro hT hn0)
    have HNEG := Lib.hid hneg
    clear hneg hl hT
    go_enter Tryz.func19, Tryz.ntmps19
    go_wp2_with fail
    try rw [HNEG.out]
    first | refine (HP.out _).mono ?_ | (rw [show (- -(n : Int)) = (n : Int) by omega]; refine (HP.out _).mono ?_)
    rintro e w2 ⟨hb2, rfl | ⟨s, hs, rfl⟩⟩
    · rw [← HT.out.1]
      go_wp2_with fail
      go_ret2
      refine ⟨hb2, Or.inl ?_⟩
      rw [figs_neg n HT.out.2, show (45 :: figs n) = [45] ++ figs n by rfl, ← strL_app, ← HT.out.1]; rfl
    · go_wp2_with fail
      go_ret2
      refine ⟨hb2, Or.inr ⟨⟨#[45]⟩ ++ s, ?_, rfl⟩⟩
      rw [ByteArray.size_append]; exact Nat.le_trans (Nat.add_le_add_left hs 1) (by decide)
  · obtain ⟨n, rfl⟩ : ∃ n : Nat, h = (n : Int) := ⟨h.toNat, by omega⟩
    exact (figures_pos w n (by omega)).mono fun e w' hp => ⟨hp.1, hp.2.imp_right fun ⟨s, hs, he⟩ => ⟨s, by omega, he⟩⟩
end Go.Proofs.YtpigccnlembfdaaGreatDoor

/- The walk of spec.JSON at a leaf that is no text. Conditions: as the theorem states. -/
namespace Go.Proofs.YtpigccnlembfdaaGreatDoor
open Go.RowKit Go.Deep

/-- What JSON, String leave at a leaf: the text, or that nothing is said of this number. -/
def TextPost (l : List UInt8) (w : World) (e : Ending) (w' : World) : Prop := Below w.heap.size w w' ∧ (e = .returned (.tuple #[.string (strL l), .int .i64 0]) ∨ ∃ s : ByteArray, s.size ≤ 100 ∧ e = .returned (.tuple #[.string s, .int .i64 2]))
theorem strL_back (t : ByteArray) : strL t.data.toList = t := by
  apply ByteArray.ext
  simp [strL]
/-- The box's cells. -/
theorem box_six (w : World) (k h : Int) (t : ByteArray) (a b c : Value) : ∀ i, (w.alloc (.cells #[.int .i64 k, .int .i64 h, .string t, a, b, c] 26)).cell? ⟨w.heap.size, i, none⟩ = (#[.int .i64 k, .int .i64 h, .string t, a, b, c] : Array Value)[i]? := fun i => cell_of_row _ w.heap.size i _ _ _ (heap_alloc_new w _)
set_option maxRecDepth 100000 in
set_option maxHeartbeats 2000000 in
theorem json_leaf (w : World) (k h : Int) (t : ByteArray) (a b c : Value) (hk : k = 1 ∨ k = 2 ∨ k = 3) (h0 : -18014398509481984 ≤ h) (h1 : h ≤ 18014398509481984) :
    Calls Tryz.prog 8 #[.agg #[.int .i64 k, .int .i64 h, .string t, a, b, c]] w
      (TextPost (if k = 1 then [102, 97, 108, 115, 101] else if k = 2 then [116, 114, 117, 101] else figs h) w) := by
  have HF := Lib.hid (fun w' => figures_any w' h h0 h1)
  have HB := Lib.hid (below1 w (.cells #[.int .i64 k, .int .i64 h, .string t, a, b, c] 26))
  rcases hk with rfl | rfl | rfl
  · go_enter Tryz.func8, Tryz.ntmps8
    go_wp2_with fail
    go_ret2
    exact ⟨HB.out, Or.inl rfl⟩
  · go_enter Tryz.func8, Tryz.ntmps8
    go_wp2_with fail
    go_ret2
    exact ⟨HB.out, Or.inl rfl⟩
  · go_enter Tryz.func8, Tryz.ntmps8
    go_wp2_with fail
    refine (HF.out _).mono ?_
    rintro e w2 ⟨hb2, rfl | ⟨s, hs, rfl⟩⟩
    · have HB2 := Lib.hid (HB.out.trans (hb2.mono HB.out.size))
      clear hb2
      go_wp2_with fail
      go_ret2
      exact ⟨HB2.out, Or.inl rfl⟩
    · have HB2 := Lib.hid (HB.out.trans (hb2.mono HB.out.size))
      clear hb2
      go_wp2_with fail
      go_ret2
      exact ⟨HB2.out, Or.inr ⟨s, hs, rfl⟩⟩
end Go.Proofs.YtpigccnlembfdaaGreatDoor
