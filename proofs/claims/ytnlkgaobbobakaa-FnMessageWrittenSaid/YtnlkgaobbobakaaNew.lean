/- ssh.ZzNewMessage: an empty message of each number. Printed by gen_new.py. -/
import Derived.Test.YtnlkgaobbobakaaRead
set_option linter.unusedVariables false
set_option linter.unusedSimpArgs false
namespace Go.Proofs.Ytnlkgaobbobakaa
open Go.RowKit

/-- An empty message, and its fields by the interface. -/
structure NewM (x : UInt8) (form : List UInt8) (L : List (UInt8 × Nat)) (T F : Nat) (t : TypeId) (cs : Array Value) : Prop where
  form : L.map (·.1) = form
  laid : Laid 0 L cs.size
  one : oneB L = true
  len : L.length ≤ 100
  new : ∀ w, Calls Try.prog 28 #[.int .u8 (x.toNat : Int)] w fun e w' => e = .returned (.iface T (.pointer (some ⟨w.heap.size, 0, none⟩))) ∧ w' = w.alloc (.cells cs t)
  hme : ∀ (gp : Nat) (W : World), (method 334 T (.pointer (some ⟨gp, 0, none⟩)) "ZzFields").run Try.prog W = .ok (F, .pointer (some ⟨gp, 0, none⟩)) W
  hcf : ∀ (gp : Nat) (W : World), (callFunc F #[.pointer (some ⟨gp, 0, none⟩)]).run Try.prog W = .ok (.enter F #[.pointer (some ⟨gp, 0, none⟩)]) W
  fields : ∀ (gp : Nat) (W : World), Calls Try.prog F #[.pointer (some ⟨gp, 0, none⟩)] W (FieldsEnd W gp x.toNat L)

set_option maxRecDepth 20000 in
set_option maxHeartbeats 1000000 in
theorem newc_1 (w : World) : Calls Try.prog 28 #[.int .u8 1] w fun e w' => e = .returned (.iface 83 (.pointer (some ⟨w.heap.size, 0, none⟩))) ∧ w' = w.alloc (.cells #[.int .u32 0, .string ⟨#[]⟩, .string ⟨#[]⟩] 85) := by
  go_enter Try.func28, Try.ntmps28
  go_wp2
  go_ret
  exact ⟨rfl, rfl⟩
theorem newm_1 : NewM (UInt8.ofNat 1) [110, 115, 115] [(110, 0), (115, 1), (115, 2)] 83 87 85 #[.int .u32 0, .string ⟨#[]⟩, .string ⟨#[]⟩] :=
  ⟨rfl, by simp [Laid, letter, widthC], by decide, by decide, fun w => newc_1 w, fun gp W => by kernel_rfl, fun gp W => by kernel_rfl, fun gp W => fields_1 W gp⟩
set_option maxRecDepth 20000 in
set_option maxHeartbeats 1000000 in
theorem newc_5 (w : World) : Calls Try.prog 28 #[.int .u8 5] w fun e w' => e = .returned (.iface 86 (.pointer (some ⟨w.heap.size, 0, none⟩))) ∧ w' = w.alloc (.cells #[.string ⟨#[]⟩] 88) := by
  go_enter Try.func28, Try.ntmps28
  go_wp2
  go_ret
  exact ⟨rfl, rfl⟩
theorem newm_5 : NewM (UInt8.ofNat 5) [115] [(115, 0)] 86 88 88 #[.string ⟨#[]⟩] :=
  ⟨rfl, by simp [Laid, letter, widthC], by decide, by decide, fun w => newc_5 w, fun gp W => by kernel_rfl, fun gp W => by kernel_rfl, fun gp W => fields_5 W gp⟩
set_option maxRecDepth 20000 in
set_option maxHeartbeats 1000000 in
theorem newc_6 (w : World) : Calls Try.prog 28 #[.int .u8 6] w fun e w' => e = .returned (.iface 89 (.pointer (some ⟨w.heap.size, 0, none⟩))) ∧ w' = w.alloc (.cells #[.string ⟨#[]⟩] 91) := by
  go_enter Try.func28, Try.ntmps28
  go_wp2
  go_ret
  exact ⟨rfl, rfl⟩
theorem newm_6 : NewM (UInt8.ofNat 6) [115] [(115, 0)] 89 89 91 #[.string ⟨#[]⟩] :=
  ⟨rfl, by simp [Laid, letter, widthC], by decide, by decide, fun w => newc_6 w, fun gp W => by kernel_rfl, fun gp W => by kernel_rfl, fun gp W => fields_6 W gp⟩
set_option maxRecDepth 20000 in
set_option maxHeartbeats 1000000 in
theorem newc_20 (w : World) : Calls Try.prog 28 #[.int .u8 20] w fun e w' => e = .returned (.iface 95 (.pointer (some ⟨w.heap.size, 0, none⟩))) ∧ w' = w.alloc (.cells #[.int .u8 0, .int .u8 0, .int .u8 0, .int .u8 0, .int .u8 0, .int .u8 0, .int .u8 0, .int .u8 0, .int .u8 0, .int .u8 0, .int .u8 0, .int .u8 0, .int .u8 0, .int .u8 0, .int .u8 0, .int .u8 0, .slice none 0 0, .slice none 0 0, .slice none 0 0, .slice none 0 0, .slice none 0 0, .slice none 0 0, .slice none 0 0, .slice none 0 0, .slice none 0 0, .slice none 0 0, .bool false, .int .u32 0] 98) := by
  go_enter Try.func28, Try.ntmps28
  go_wp2
  go_ret
  exact ⟨rfl, rfl⟩
theorem newm_20 : NewM (UInt8.ofNat 20) [99, 108, 108, 108, 108, 108, 108, 108, 108, 108, 108, 116, 110] [(99, 0), (108, 16), (108, 17), (108, 18), (108, 19), (108, 20), (108, 21), (108, 22), (108, 23), (108, 24), (108, 25), (116, 26), (110, 27)] 95 91 98 #[.int .u8 0, .int .u8 0, .int .u8 0, .int .u8 0, .int .u8 0, .int .u8 0, .int .u8 0, .int .u8 0, .int .u8 0, .int .u8 0, .int .u8 0, .int .u8 0, .int .u8 0, .int .u8 0, .int .u8 0, .int .u8 0, .slice none 0 0, .slice none 0 0, .slice none 0 0, .slice none 0 0, .slice none 0 0, .slice none 0 0, .slice none 0 0, .slice none 0 0, .slice none 0 0, .slice none 0 0, .bool false, .int .u32 0] :=
  ⟨rfl, by simp [Laid, letter, widthC], by decide, by decide, fun w => newc_20 w, fun gp W => by kernel_rfl, fun gp W => by kernel_rfl, fun gp W => fields_20 W gp⟩
set_option maxRecDepth 20000 in
set_option maxHeartbeats 1000000 in
theorem newc_50 (w : World) : Calls Try.prog 28 #[.int .u8 50] w fun e w' => e = .returned (.iface 99 (.pointer (some ⟨w.heap.size, 0, none⟩))) ∧ w' = w.alloc (.cells #[.string ⟨#[]⟩, .string ⟨#[]⟩, .string ⟨#[]⟩, .slice none 0 0] 101) := by
  go_enter Try.func28, Try.ntmps28
  go_wp2
  go_ret
  exact ⟨rfl, rfl⟩
theorem newm_50 : NewM (UInt8.ofNat 50) [115, 115, 115, 114] [(115, 0), (115, 1), (115, 2), (114, 3)] 99 92 101 #[.string ⟨#[]⟩, .string ⟨#[]⟩, .string ⟨#[]⟩, .slice none 0 0] :=
  ⟨rfl, by simp [Laid, letter, widthC], by decide, by decide, fun w => newc_50 w, fun gp W => by kernel_rfl, fun gp W => by kernel_rfl, fun gp W => fields_50 W gp⟩
set_option maxRecDepth 20000 in
set_option maxHeartbeats 1000000 in
theorem newc_51 (w : World) : Calls Try.prog 28 #[.int .u8 51] w fun e w' => e = .returned (.iface 102 (.pointer (some ⟨w.heap.size, 0, none⟩))) ∧ w' = w.alloc (.cells #[.slice none 0 0, .bool false] 104) := by
  go_enter Try.func28, Try.ntmps28
  go_wp2
  go_ret
  exact ⟨rfl, rfl⟩
theorem newm_51 : NewM (UInt8.ofNat 51) [108, 116] [(108, 0), (116, 1)] 102 93 104 #[.slice none 0 0, .bool false] :=
  ⟨rfl, by simp [Laid, letter, widthC], by decide, by decide, fun w => newc_51 w, fun gp W => by kernel_rfl, fun gp W => by kernel_rfl, fun gp W => fields_51 W gp⟩
set_option maxRecDepth 20000 in
set_option maxHeartbeats 1000000 in
theorem newc_80 (w : World) : Calls Try.prog 28 #[.int .u8 80] w fun e w' => e = .returned (.iface 111 (.pointer (some ⟨w.heap.size, 0, none⟩))) ∧ w' = w.alloc (.cells #[.string ⟨#[]⟩, .bool false, .slice none 0 0] 113) := by
  go_enter Try.func28, Try.ntmps28
  go_wp2
  go_ret
  exact ⟨rfl, rfl⟩
theorem newm_80 : NewM (UInt8.ofNat 80) [115, 116, 114] [(115, 0), (116, 1), (114, 2)] 111 96 113 #[.string ⟨#[]⟩, .bool false, .slice none 0 0] :=
  ⟨rfl, by simp [Laid, letter, widthC], by decide, by decide, fun w => newc_80 w, fun gp W => by kernel_rfl, fun gp W => by kernel_rfl, fun gp W => fields_80 W gp⟩
set_option maxRecDepth 20000 in
set_option maxHeartbeats 1000000 in
theorem newc_81 (w : World) : Calls Try.prog 28 #[.int .u8 81] w fun e w' => e = .returned (.iface 114 (.pointer (some ⟨w.heap.size, 0, none⟩))) ∧ w' = w.alloc (.cells #[.slice none 0 0] 116) := by
  go_enter Try.func28, Try.ntmps28
  go_wp2
  go_ret
  exact ⟨rfl, rfl⟩
theorem newm_81 : NewM (UInt8.ofNat 81) [114] [(114, 0)] 114 97 116 #[.slice none 0 0] :=
  ⟨rfl, by simp [Laid, letter, widthC], by decide, by decide, fun w => newc_81 w, fun gp W => by kernel_rfl, fun gp W => by kernel_rfl, fun gp W => fields_81 W gp⟩
set_option maxRecDepth 20000 in
set_option maxHeartbeats 1000000 in
theorem newc_82 (w : World) : Calls Try.prog 28 #[.int .u8 82] w fun e w' => e = .returned (.iface 117 (.pointer (some ⟨w.heap.size, 0, none⟩))) ∧ w' = w.alloc (.cells #[.slice none 0 0] 119) := by
  go_enter Try.func28, Try.ntmps28
  go_wp2
  go_ret
  exact ⟨rfl, rfl⟩
theorem newm_82 : NewM (UInt8.ofNat 82) [114] [(114, 0)] 117 98 119 #[.slice none 0 0] :=
  ⟨rfl, by simp [Laid, letter, widthC], by decide, by decide, fun w => newc_82 w, fun gp W => by kernel_rfl, fun gp W => by kernel_rfl, fun gp W => fields_82 W gp⟩
set_option maxRecDepth 20000 in
set_option maxHeartbeats 1000000 in
theorem newc_90 (w : World) : Calls Try.prog 28 #[.int .u8 90] w fun e w' => e = .returned (.iface 120 (.pointer (some ⟨w.heap.size, 0, none⟩))) ∧ w' = w.alloc (.cells #[.string ⟨#[]⟩, .int .u32 0, .int .u32 0, .int .u32 0, .slice none 0 0] 122) := by
  go_enter Try.func28, Try.ntmps28
  go_wp2
  go_ret
  exact ⟨rfl, rfl⟩
theorem newm_90 : NewM (UInt8.ofNat 90) [115, 110, 110, 110, 114] [(115, 0), (110, 1), (110, 2), (110, 3), (114, 4)] 120 99 122 #[.string ⟨#[]⟩, .int .u32 0, .int .u32 0, .int .u32 0, .slice none 0 0] :=
  ⟨rfl, by simp [Laid, letter, widthC], by decide, by decide, fun w => newc_90 w, fun gp W => by kernel_rfl, fun gp W => by kernel_rfl, fun gp W => fields_90 W gp⟩
set_option maxRecDepth 20000 in
set_option maxHeartbeats 1000000 in
theorem newc_91 (w : World) : Calls Try.prog 28 #[.int .u8 91] w fun e w' => e = .returned (.iface 123 (.pointer (some ⟨w.heap.size, 0, none⟩))) ∧ w' = w.alloc (.cells #[.int .u32 0, .int .u32 0, .int .u32 0, .int .u32 0, .slice none 0 0] 125) := by
  go_enter Try.func28, Try.ntmps28
  go_wp2
  go_ret
  exact ⟨rfl, rfl⟩
theorem newm_91 : NewM (UInt8.ofNat 91) [110, 110, 110, 110, 114] [(110, 0), (110, 1), (110, 2), (110, 3), (114, 4)] 123 100 125 #[.int .u32 0, .int .u32 0, .int .u32 0, .int .u32 0, .slice none 0 0] :=
  ⟨rfl, by simp [Laid, letter, widthC], by decide, by decide, fun w => newc_91 w, fun gp W => by kernel_rfl, fun gp W => by kernel_rfl, fun gp W => fields_91 W gp⟩
set_option maxRecDepth 20000 in
set_option maxHeartbeats 1000000 in
theorem newc_92 (w : World) : Calls Try.prog 28 #[.int .u8 92] w fun e w' => e = .returned (.iface 126 (.pointer (some ⟨w.heap.size, 0, none⟩))) ∧ w' = w.alloc (.cells #[.int .u32 0, .int .u32 0, .string ⟨#[]⟩, .string ⟨#[]⟩] 129) := by
  go_enter Try.func28, Try.ntmps28
  go_wp2
  go_ret
  exact ⟨rfl, rfl⟩
theorem newm_92 : NewM (UInt8.ofNat 92) [110, 110, 115, 115] [(110, 0), (110, 1), (115, 2), (115, 3)] 126 101 129 #[.int .u32 0, .int .u32 0, .string ⟨#[]⟩, .string ⟨#[]⟩] :=
  ⟨rfl, by simp [Laid, letter, widthC], by decide, by decide, fun w => newc_92 w, fun gp W => by kernel_rfl, fun gp W => by kernel_rfl, fun gp W => fields_92 W gp⟩
set_option maxRecDepth 20000 in
set_option maxHeartbeats 1000000 in
theorem newc_93 (w : World) : Calls Try.prog 28 #[.int .u8 93] w fun e w' => e = .returned (.iface 130 (.pointer (some ⟨w.heap.size, 0, none⟩))) ∧ w' = w.alloc (.cells #[.int .u32 0, .int .u32 0] 132) := by
  go_enter Try.func28, Try.ntmps28
  go_wp2
  go_ret
  exact ⟨rfl, rfl⟩
theorem newm_93 : NewM (UInt8.ofNat 93) [110, 110] [(110, 0), (110, 1)] 130 102 132 #[.int .u32 0, .int .u32 0] :=
  ⟨rfl, by simp [Laid, letter, widthC], by decide, by decide, fun w => newc_93 w, fun gp W => by kernel_rfl, fun gp W => by kernel_rfl, fun gp W => fields_93 W gp⟩
set_option maxRecDepth 20000 in
set_option maxHeartbeats 1000000 in
theorem newc_96 (w : World) : Calls Try.prog 28 #[.int .u8 96] w fun e w' => e = .returned (.iface 136 (.pointer (some ⟨w.heap.size, 0, none⟩))) ∧ w' = w.alloc (.cells #[.int .u32 0] 138) := by
  go_enter Try.func28, Try.ntmps28
  go_wp2
  go_ret
  exact ⟨rfl, rfl⟩
theorem newm_96 : NewM (UInt8.ofNat 96) [110] [(110, 0)] 136 104 138 #[.int .u32 0] :=
  ⟨rfl, by simp [Laid, letter, widthC], by decide, by decide, fun w => newc_96 w, fun gp W => by kernel_rfl, fun gp W => by kernel_rfl, fun gp W => fields_96 W gp⟩
set_option maxRecDepth 20000 in
set_option maxHeartbeats 1000000 in
theorem newc_97 (w : World) : Calls Try.prog 28 #[.int .u8 97] w fun e w' => e = .returned (.iface 139 (.pointer (some ⟨w.heap.size, 0, none⟩))) ∧ w' = w.alloc (.cells #[.int .u32 0] 141) := by
  go_enter Try.func28, Try.ntmps28
  go_wp2
  go_ret
  exact ⟨rfl, rfl⟩
theorem newm_97 : NewM (UInt8.ofNat 97) [110] [(110, 0)] 139 105 141 #[.int .u32 0] :=
  ⟨rfl, by simp [Laid, letter, widthC], by decide, by decide, fun w => newc_97 w, fun gp W => by kernel_rfl, fun gp W => by kernel_rfl, fun gp W => fields_97 W gp⟩
set_option maxRecDepth 20000 in
set_option maxHeartbeats 1000000 in
theorem newc_98 (w : World) : Calls Try.prog 28 #[.int .u8 98] w fun e w' => e = .returned (.iface 142 (.pointer (some ⟨w.heap.size, 0, none⟩))) ∧ w' = w.alloc (.cells #[.int .u32 0, .string ⟨#[]⟩, .bool false, .slice none 0 0] 144) := by
  go_enter Try.func28, Try.ntmps28
  go_wp2
  go_ret
  exact ⟨rfl, rfl⟩
theorem newm_98 : NewM (UInt8.ofNat 98) [110, 115, 116, 114] [(110, 0), (115, 1), (116, 2), (114, 3)] 142 106 144 #[.int .u32 0, .string ⟨#[]⟩, .bool false, .slice none 0 0] :=
  ⟨rfl, by simp [Laid, letter, widthC], by decide, by decide, fun w => newc_98 w, fun gp W => by kernel_rfl, fun gp W => by kernel_rfl, fun gp W => fields_98 W gp⟩
set_option maxRecDepth 20000 in
set_option maxHeartbeats 1000000 in
theorem newc_99 (w : World) : Calls Try.prog 28 #[.int .u8 99] w fun e w' => e = .returned (.iface 145 (.pointer (some ⟨w.heap.size, 0, none⟩))) ∧ w' = w.alloc (.cells #[.int .u32 0] 147) := by
  go_enter Try.func28, Try.ntmps28
  go_wp2
  go_ret
  exact ⟨rfl, rfl⟩
theorem newm_99 : NewM (UInt8.ofNat 99) [110] [(110, 0)] 145 107 147 #[.int .u32 0] :=
  ⟨rfl, by simp [Laid, letter, widthC], by decide, by decide, fun w => newc_99 w, fun gp W => by kernel_rfl, fun gp W => by kernel_rfl, fun gp W => fields_99 W gp⟩
set_option maxRecDepth 20000 in
set_option maxHeartbeats 1000000 in
theorem newc_100 (w : World) : Calls Try.prog 28 #[.int .u8 100] w fun e w' => e = .returned (.iface 148 (.pointer (some ⟨w.heap.size, 0, none⟩))) ∧ w' = w.alloc (.cells #[.int .u32 0] 150) := by
  go_enter Try.func28, Try.ntmps28
  go_wp2
  go_ret
  exact ⟨rfl, rfl⟩
theorem newm_100 : NewM (UInt8.ofNat 100) [110] [(110, 0)] 148 108 150 #[.int .u32 0] :=
  ⟨rfl, by simp [Laid, letter, widthC], by decide, by decide, fun w => newc_100 w, fun gp W => by kernel_rfl, fun gp W => by kernel_rfl, fun gp W => fields_100 W gp⟩
theorem new_any (x : UInt8) (form : List UInt8) (hf : shapeP x.toNat = some form) (hx : x ≠ 52) : ∃ L T F t cs, NewM x form L T F t cs := by
  unfold shapeP at hf
  by_cases h1 : (x.toNat : Int) = 1
  · rw [if_pos h1] at hf
    obtain rfl : x = UInt8.ofNat 1 := u8_of h1 (by decide)
    injection hf with hf
    subst hf
    exact ⟨_, _, _, _, _, newm_1⟩
  rw [if_neg h1] at hf
  by_cases h5 : (x.toNat : Int) = 5
  · rw [if_pos h5] at hf
    obtain rfl : x = UInt8.ofNat 5 := u8_of h5 (by decide)
    injection hf with hf
    subst hf
    exact ⟨_, _, _, _, _, newm_5⟩
  rw [if_neg h5] at hf
  by_cases h6 : (x.toNat : Int) = 6
  · rw [if_pos h6] at hf
    obtain rfl : x = UInt8.ofNat 6 := u8_of h6 (by decide)
    injection hf with hf
    subst hf
    exact ⟨_, _, _, _, _, newm_6⟩
  rw [if_neg h6] at hf
  by_cases h20 : (x.toNat : Int) = 20
  · rw [if_pos h20] at hf
    obtain rfl : x = UInt8.ofNat 20 := u8_of h20 (by decide)
    injection hf with hf
    subst hf
    exact ⟨_, _, _, _, _, newm_20⟩
  rw [if_neg h20] at hf
  by_cases h50 : (x.toNat : Int) = 50
  · rw [if_pos h50] at hf
    obtain rfl : x = UInt8.ofNat 50 := u8_of h50 (by decide)
    injection hf with hf
    subst hf
    exact ⟨_, _, _, _, _, newm_50⟩
  rw [if_neg h50] at hf
  by_cases h51 : (x.toNat : Int) = 51
  · rw [if_pos h51] at hf
    obtain rfl : x = UInt8.ofNat 51 := u8_of h51 (by decide)
    injection hf with hf
    subst hf
    exact ⟨_, _, _, _, _, newm_51⟩
  rw [if_neg h51] at hf
  by_cases h52 : (x.toNat : Int) = 52
  · rw [if_pos h52] at hf
    obtain rfl : x = UInt8.ofNat 52 := u8_of h52 (by decide)
    exact absurd rfl hx
  rw [if_neg h52] at hf
  by_cases h80 : (x.toNat : Int) = 80
  · rw [if_pos h80] at hf
    obtain rfl : x = UInt8.ofNat 80 := u8_of h80 (by decide)
    injection hf with hf
    subst hf
    exact ⟨_, _, _, _, _, newm_80⟩
  rw [if_neg h80] at hf
  by_cases h81 : (x.toNat : Int) = 81
  · rw [if_pos h81] at hf
    obtain rfl : x = UInt8.ofNat 81 := u8_of h81 (by decide)
    injection hf with hf
    subst hf
    exact ⟨_, _, _, _, _, newm_81⟩
  rw [if_neg h81] at hf
  by_cases h82 : (x.toNat : Int) = 82
  · rw [if_pos h82] at hf
    obtain rfl : x = UInt8.ofNat 82 := u8_of h82 (by decide)
    injection hf with hf
    subst hf
    exact ⟨_, _, _, _, _, newm_82⟩
  rw [if_neg h82] at hf
  by_cases h90 : (x.toNat : Int) = 90
  · rw [if_pos h90] at hf
    obtain rfl : x = UInt8.ofNat 90 := u8_of h90 (by decide)
    injection hf with hf
    subst hf
    exact ⟨_, _, _, _, _, newm_90⟩
  rw [if_neg h90] at hf
  by_cases h91 : (x.toNat : Int) = 91
  · rw [if_pos h91] at hf
    obtain rfl : x = UInt8.ofNat 91 := u8_of h91 (by decide)
    injection hf with hf
    subst hf
    exact ⟨_, _, _, _, _, newm_91⟩
  rw [if_neg h91] at hf
  by_cases h92 : (x.toNat : Int) = 92
  · rw [if_pos h92] at hf
    obtain rfl : x = UInt8.ofNat 92 := u8_of h92 (by decide)
    injection hf with hf
    subst hf
    exact ⟨_, _, _, _, _, newm_92⟩
  rw [if_neg h92] at hf
  by_cases h93 : (x.toNat : Int) = 93
  · rw [if_pos h93] at hf
    obtain rfl : x = UInt8.ofNat 93 := u8_of h93 (by decide)
    injection hf with hf
    subst hf
    exact ⟨_, _, _, _, _, newm_93⟩
  rw [if_neg h93] at hf
  by_cases h96 : (x.toNat : Int) = 96
  · rw [if_pos h96] at hf
    obtain rfl : x = UInt8.ofNat 96 := u8_of h96 (by decide)
    injection hf with hf
    subst hf
    exact ⟨_, _, _, _, _, newm_96⟩
  rw [if_neg h96] at hf
  by_cases h97 : (x.toNat : Int) = 97
  · rw [if_pos h97] at hf
    obtain rfl : x = UInt8.ofNat 97 := u8_of h97 (by decide)
    injection hf with hf
    subst hf
    exact ⟨_, _, _, _, _, newm_97⟩
  rw [if_neg h97] at hf
  by_cases h98 : (x.toNat : Int) = 98
  · rw [if_pos h98] at hf
    obtain rfl : x = UInt8.ofNat 98 := u8_of h98 (by decide)
    injection hf with hf
    subst hf
    exact ⟨_, _, _, _, _, newm_98⟩
  rw [if_neg h98] at hf
  by_cases h99 : (x.toNat : Int) = 99
  · rw [if_pos h99] at hf
    obtain rfl : x = UInt8.ofNat 99 := u8_of h99 (by decide)
    injection hf with hf
    subst hf
    exact ⟨_, _, _, _, _, newm_99⟩
  rw [if_neg h99] at hf
  by_cases h100 : (x.toNat : Int) = 100
  · rw [if_pos h100] at hf
    obtain rfl : x = UInt8.ofNat 100 := u8_of h100 (by decide)
    injection hf with hf
    subst hf
    exact ⟨_, _, _, _, _, newm_100⟩
  rw [if_neg h100] at hf
  cases hf

end Go.Proofs.Ytnlkgaobbobakaa
