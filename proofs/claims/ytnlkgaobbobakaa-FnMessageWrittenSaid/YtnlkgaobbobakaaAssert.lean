/- 'v, ok := x.(T)' for T no interface, whatever x's dynamic type. -/
import Derived.Test.YtnlkgaobbobakaaRdr
set_option linter.unusedVariables false
set_option linter.unusedSimpArgs false
namespace Go.Proofs.Ytnlkgaobbobakaa
open Go.RowKit

theorem ta_ptr {P : Program} {T e : TypeId} {z : Value} (hu : P.underlying T = some (.pointer e)) (hz : (P.info? T).map (·.zero) = some (some z)) (x D : TypeId) (v : Value) (W : World) :
    (Instr.typeAssert (.iface D v) x T true).run P W = .ok (.tuple #[if D = T then v else z, .bool (decide (D = T))]) W := by
  obtain ⟨j, hj, hz'⟩ := Option.map_eq_some_iff.1 hz
  by_cases h : D = T <;> simp [Instr.typeAssert, run_underlying hu, typeInfo, zeroValue, hj, hz', h]
theorem ta_struct {P : Program} {T : TypeId} {e} {z : Value} (hu : P.underlying T = some (.struct e)) (hz : (P.info? T).map (·.zero) = some (some z)) (x D : TypeId) (v : Value) (W : World) :
    (Instr.typeAssert (.iface D v) x T true).run P W = .ok (.tuple #[if D = T then v else z, .bool (decide (D = T))]) W := by
  obtain ⟨j, hj, hz'⟩ := Option.map_eq_some_iff.1 hz
  by_cases h : D = T <;> simp [Instr.typeAssert, run_underlying hu, typeInfo, zeroValue, hj, hz', h]
theorem ta_bool (D : TypeId) (v : Value) (W : World) : (Instr.typeAssert (.iface D v) 20 68 true).run Try.prog W = .ok (.tuple #[if D = 68 then v else .pointer none, .bool (decide (D = 68))]) W := ta_ptr Try.underlying68 (by kernel_rfl) _ D v W
theorem ta_arr (D : TypeId) (v : Value) (W : World) : (Instr.typeAssert (.iface D v) 20 69 true).run Try.prog W = .ok (.tuple #[if D = 69 then v else .pointer none, .bool (decide (D = 69))]) W := ta_ptr Try.underlying69 (by kernel_rfl) _ D v W
theorem ta_u64 (D : TypeId) (v : Value) (W : World) : (Instr.typeAssert (.iface D v) 20 177 true).run Try.prog W = .ok (.tuple #[if D = 177 then v else .pointer none, .bool (decide (D = 177))]) W := ta_ptr Try.underlying177 (by kernel_rfl) _ D v W
theorem ta_u32 (D : TypeId) (v : Value) (W : World) : (Instr.typeAssert (.iface D v) 20 64 true).run Try.prog W = .ok (.tuple #[if D = 64 then v else .pointer none, .bool (decide (D = 64))]) W := ta_ptr Try.underlying64 (by kernel_rfl) _ D v W
theorem ta_u8 (D : TypeId) (v : Value) (W : World) : (Instr.typeAssert (.iface D v) 20 179 true).run Try.prog W = .ok (.tuple #[if D = 179 then v else .pointer none, .bool (decide (D = 179))]) W := ta_ptr Try.underlying179 (by kernel_rfl) _ D v W
theorem ta_str (D : TypeId) (v : Value) (W : World) : (Instr.typeAssert (.iface D v) 20 65 true).run Try.prog W = .ok (.tuple #[if D = 65 then v else .pointer none, .bool (decide (D = 65))]) W := ta_ptr Try.underlying65 (by kernel_rfl) _ D v W
theorem ta_bytes (D : TypeId) (v : Value) (W : World) : (Instr.typeAssert (.iface D v) 20 66 true).run Try.prog W = .ok (.tuple #[if D = 66 then v else .pointer none, .bool (decide (D = 66))]) W := ta_ptr Try.underlying66 (by kernel_rfl) _ D v W
theorem ta_strs (D : TypeId) (v : Value) (W : World) : (Instr.typeAssert (.iface D v) 20 67 true).run Try.prog W = .ok (.tuple #[if D = 67 then v else .pointer none, .bool (decide (D = 67))]) W := ta_ptr Try.underlying67 (by kernel_rfl) _ D v W
theorem ta_rest (D : TypeId) (v : Value) (W : World) : (Instr.typeAssert (.iface D v) 20 71 true).run Try.prog W = .ok (.tuple #[if D = 71 then v else .agg #[.pointer none], .bool (decide (D = 71))]) W := ta_struct Try.underlying71 (by kernel_rfl) _ D v W

end Go.Proofs.Ytnlkgaobbobakaa
