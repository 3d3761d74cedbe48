/- 'v, ok := x.(T)' for T no interface, whatever x's dynamic type. -/
import Derived.Test.YtoeepfmmceilaaaGreatDoorRdr
set_option linter.unusedVariables false
set_option linter.unusedSimpArgs false
namespace Go.Proofs.YtoeepfmmceilaaaGreatDoor
open Go.RowKit

theorem ta_ptr {P : Program} {T e : TypeId} {z : Value} (hu : P.underlying T = some (.pointer e)) (hz : (P.info? T).map (·.zero) = some (some z)) (x D : TypeId) (v : Value) (W : World) :
    (Instr.typeAssert (.iface D v) x T true).run P W = .ok (.tuple #[if D = T then v else z, .bool (decide (D = T))]) W := by
  obtain ⟨j, hj, hz'⟩ := Option.map_eq_some_iff.1 hz
  by_cases h : D = T <;> simp [Instr.typeAssert, run_underlying hu, typeInfo, zeroValue, hj, hz', h]
theorem ta_struct {P : Program} {T : TypeId} {e} {z : Value} (hu : P.underlying T = some (.struct e)) (hz : (P.info? T).map (·.zero) = some (some z)) (x D : TypeId) (v : Value) (W : World) :
    (Instr.typeAssert (.iface D v) x T true).run P W = .ok (.tuple #[if D = T then v else z, .bool (decide (D = T))]) W := by
  obtain ⟨j, hj, hz'⟩ := Option.map_eq_some_iff.1 hz
  by_cases h : D = T <;> simp [Instr.typeAssert, run_underlying hu, typeInfo, zeroValue, hj, hz', h]
theorem ta_bool (D : TypeId) (v : Value) (W : World) : (Instr.typeAssert (.iface D v) 20 251 true).run Tryz.prog W = .ok (.tuple #[if D = 251 then v else .pointer none, .bool (decide (D = 251))]) W := ta_ptr Tryz.underlying251 (by kernel_rfl) _ D v W
theorem ta_arr (D : TypeId) (v : Value) (W : World) : (Instr.typeAssert (.iface D v) 20 252 true).run Tryz.prog W = .ok (.tuple #[if D = 252 then v else .pointer none, .bool (decide (D = 252))]) W := ta_ptr Tryz.underlying252 (by kernel_rfl) _ D v W
theorem ta_u64 (D : TypeId) (v : Value) (W : World) : (Instr.typeAssert (.iface D v) 20 253 true).run Tryz.prog W = .ok (.tuple #[if D = 253 then v else .pointer none, .bool (decide (D = 253))]) W := ta_ptr Tryz.underlying253 (by kernel_rfl) _ D v W
theorem ta_u32 (D : TypeId) (v : Value) (W : World) : (Instr.typeAssert (.iface D v) 20 256 true).run Tryz.prog W = .ok (.tuple #[if D = 256 then v else .pointer none, .bool (decide (D = 256))]) W := ta_ptr Tryz.underlying256 (by kernel_rfl) _ D v W
theorem ta_u8 (D : TypeId) (v : Value) (W : World) : (Instr.typeAssert (.iface D v) 20 198 true).run Tryz.prog W = .ok (.tuple #[if D = 198 then v else .pointer none, .bool (decide (D = 198))]) W := ta_ptr Tryz.underlying198 (by kernel_rfl) _ D v W
theorem ta_str (D : TypeId) (v : Value) (W : World) : (Instr.typeAssert (.iface D v) 20 259 true).run Tryz.prog W = .ok (.tuple #[if D = 259 then v else .pointer none, .bool (decide (D = 259))]) W := ta_ptr Tryz.underlying259 (by kernel_rfl) _ D v W
theorem ta_bytes (D : TypeId) (v : Value) (W : World) : (Instr.typeAssert (.iface D v) 20 260 true).run Tryz.prog W = .ok (.tuple #[if D = 260 then v else .pointer none, .bool (decide (D = 260))]) W := ta_ptr Tryz.underlying260 (by kernel_rfl) _ D v W
theorem ta_strs (D : TypeId) (v : Value) (W : World) : (Instr.typeAssert (.iface D v) 20 263 true).run Tryz.prog W = .ok (.tuple #[if D = 263 then v else .pointer none, .bool (decide (D = 263))]) W := ta_ptr Tryz.underlying263 (by kernel_rfl) _ D v W
theorem ta_rest (D : TypeId) (v : Value) (W : World) : (Instr.typeAssert (.iface D v) 20 262 true).run Tryz.prog W = .ok (.tuple #[if D = 262 then v else .agg #[.pointer none], .bool (decide (D = 262))]) W := ta_struct Tryz.underlying262 (by kernel_rfl) _ D v W

end Go.Proofs.YtoeepfmmceilaaaGreatDoor
