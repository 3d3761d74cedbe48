/- spec.shape: the letters of a number. -/
import Derived.Test.YtnlkgaobbobakaaBase
import Derived.Test.YtnlkgaobbobakaaPure
import Derived.Test.YtnlkgaobbobakaaProg
set_option linter.unusedVariables false
set_option linter.unusedSimpArgs false
namespace Go.Proofs.Ytnlkgaobbobakaa
open Go.RowKit

set_option maxHeartbeats 400000 in
theorem shape_1 (w : World) : Calls Try.prog 15 #[.int .i64 1] w fun e w' => e = .returned (.tuple #[strV ((shapeP 1).getD []), .bool true]) ∧ w = w' := by
  go_enter Try.func15, Try.ntmps15
  go_wp2
  go_ret2
  exact ⟨rfl, rfl⟩
set_option maxHeartbeats 400000 in
theorem shape_5 (w : World) : Calls Try.prog 15 #[.int .i64 5] w fun e w' => e = .returned (.tuple #[strV ((shapeP 5).getD []), .bool true]) ∧ w = w' := by
  go_enter Try.func15, Try.ntmps15
  go_wp2
  go_ret2
  exact ⟨rfl, rfl⟩
set_option maxHeartbeats 400000 in
theorem shape_6 (w : World) : Calls Try.prog 15 #[.int .i64 6] w fun e w' => e = .returned (.tuple #[strV ((shapeP 6).getD []), .bool true]) ∧ w = w' := by
  go_enter Try.func15, Try.ntmps15
  go_wp2
  go_ret2
  exact ⟨rfl, rfl⟩
set_option maxHeartbeats 400000 in
theorem shape_20 (w : World) : Calls Try.prog 15 #[.int .i64 20] w fun e w' => e = .returned (.tuple #[strV ((shapeP 20).getD []), .bool true]) ∧ w = w' := by
  go_enter Try.func15, Try.ntmps15
  go_wp2
  go_ret2
  exact ⟨rfl, rfl⟩
set_option maxHeartbeats 400000 in
theorem shape_50 (w : World) : Calls Try.prog 15 #[.int .i64 50] w fun e w' => e = .returned (.tuple #[strV ((shapeP 50).getD []), .bool true]) ∧ w = w' := by
  go_enter Try.func15, Try.ntmps15
  go_wp2
  go_ret2
  exact ⟨rfl, rfl⟩
set_option maxHeartbeats 400000 in
theorem shape_51 (w : World) : Calls Try.prog 15 #[.int .i64 51] w fun e w' => e = .returned (.tuple #[strV ((shapeP 51).getD []), .bool true]) ∧ w = w' := by
  go_enter Try.func15, Try.ntmps15
  go_wp2
  go_ret2
  exact ⟨rfl, rfl⟩
set_option maxHeartbeats 400000 in
theorem shape_52 (w : World) : Calls Try.prog 15 #[.int .i64 52] w fun e w' => e = .returned (.tuple #[strV ((shapeP 52).getD []), .bool true]) ∧ w = w' := by
  go_enter Try.func15, Try.ntmps15
  go_wp2
  go_ret2
  exact ⟨rfl, rfl⟩
set_option maxHeartbeats 400000 in
theorem shape_80 (w : World) : Calls Try.prog 15 #[.int .i64 80] w fun e w' => e = .returned (.tuple #[strV ((shapeP 80).getD []), .bool true]) ∧ w = w' := by
  go_enter Try.func15, Try.ntmps15
  go_wp2
  go_ret2
  exact ⟨rfl, rfl⟩
set_option maxHeartbeats 400000 in
theorem shape_81 (w : World) : Calls Try.prog 15 #[.int .i64 81] w fun e w' => e = .returned (.tuple #[strV ((shapeP 81).getD []), .bool true]) ∧ w = w' := by
  go_enter Try.func15, Try.ntmps15
  go_wp2
  go_ret2
  exact ⟨rfl, rfl⟩
set_option maxHeartbeats 400000 in
theorem shape_82 (w : World) : Calls Try.prog 15 #[.int .i64 82] w fun e w' => e = .returned (.tuple #[strV ((shapeP 82).getD []), .bool true]) ∧ w = w' := by
  go_enter Try.func15, Try.ntmps15
  go_wp2
  go_ret2
  exact ⟨rfl, rfl⟩
set_option maxHeartbeats 400000 in
theorem shape_90 (w : World) : Calls Try.prog 15 #[.int .i64 90] w fun e w' => e = .returned (.tuple #[strV ((shapeP 90).getD []), .bool true]) ∧ w = w' := by
  go_enter Try.func15, Try.ntmps15
  go_wp2
  go_ret2
  exact ⟨rfl, rfl⟩
set_option maxHeartbeats 400000 in
theorem shape_91 (w : World) : Calls Try.prog 15 #[.int .i64 91] w fun e w' => e = .returned (.tuple #[strV ((shapeP 91).getD []), .bool true]) ∧ w = w' := by
  go_enter Try.func15, Try.ntmps15
  go_wp2
  go_ret2
  exact ⟨rfl, rfl⟩
set_option maxHeartbeats 400000 in
theorem shape_92 (w : World) : Calls Try.prog 15 #[.int .i64 92] w fun e w' => e = .returned (.tuple #[strV ((shapeP 92).getD []), .bool true]) ∧ w = w' := by
  go_enter Try.func15, Try.ntmps15
  go_wp2
  go_ret2
  exact ⟨rfl, rfl⟩
set_option maxHeartbeats 400000 in
theorem shape_93 (w : World) : Calls Try.prog 15 #[.int .i64 93] w fun e w' => e = .returned (.tuple #[strV ((shapeP 93).getD []), .bool true]) ∧ w = w' := by
  go_enter Try.func15, Try.ntmps15
  go_wp2
  go_ret2
  exact ⟨rfl, rfl⟩
set_option maxHeartbeats 400000 in
theorem shape_96 (w : World) : Calls Try.prog 15 #[.int .i64 96] w fun e w' => e = .returned (.tuple #[strV ((shapeP 96).getD []), .bool true]) ∧ w = w' := by
  go_enter Try.func15, Try.ntmps15
  go_wp2
  go_ret2
  exact ⟨rfl, rfl⟩
set_option maxHeartbeats 400000 in
theorem shape_97 (w : World) : Calls Try.prog 15 #[.int .i64 97] w fun e w' => e = .returned (.tuple #[strV ((shapeP 97).getD []), .bool true]) ∧ w = w' := by
  go_enter Try.func15, Try.ntmps15
  go_wp2
  go_ret2
  exact ⟨rfl, rfl⟩
set_option maxHeartbeats 400000 in
theorem shape_98 (w : World) : Calls Try.prog 15 #[.int .i64 98] w fun e w' => e = .returned (.tuple #[strV ((shapeP 98).getD []), .bool true]) ∧ w = w' := by
  go_enter Try.func15, Try.ntmps15
  go_wp2
  go_ret2
  exact ⟨rfl, rfl⟩
set_option maxHeartbeats 400000 in
theorem shape_99 (w : World) : Calls Try.prog 15 #[.int .i64 99] w fun e w' => e = .returned (.tuple #[strV ((shapeP 99).getD []), .bool true]) ∧ w = w' := by
  go_enter Try.func15, Try.ntmps15
  go_wp2
  go_ret2
  exact ⟨rfl, rfl⟩
set_option maxHeartbeats 400000 in
theorem shape_100 (w : World) : Calls Try.prog 15 #[.int .i64 100] w fun e w' => e = .returned (.tuple #[strV ((shapeP 100).getD []), .bool true]) ∧ w = w' := by
  go_enter Try.func15, Try.ntmps15
  go_wp2
  go_ret2
  exact ⟨rfl, rfl⟩
set_option maxHeartbeats 1000000 in
theorem shape_no (n : Int) (w : World) (h1 : (n == 1) = false) (h5 : (n == 5) = false) (h6 : (n == 6) = false) (h20 : (n == 20) = false) (h50 : (n == 50) = false) (h51 : (n == 51) = false) (h52 : (n == 52) = false) (h80 : (n == 80) = false) (h81 : (n == 81) = false) (h82 : (n == 82) = false) (h90 : (n == 90) = false) (h91 : (n == 91) = false) (h92 : (n == 92) = false) (h93 : (n == 93) = false) (h96 : (n == 96) = false) (h97 : (n == 97) = false) (h98 : (n == 98) = false) (h99 : (n == 99) = false) (h100 : (n == 100) = false) : Calls Try.prog 15 #[.int .i64 n] w fun e w' => e = .returned (.tuple #[strV [], .bool false]) ∧ w = w' := by
  go_enter Try.func15, Try.ntmps15
  go_wp2
  go_ret2
  exact ⟨rfl, rfl⟩

theorem shape_any (n : Int) (w : World) : Calls Try.prog 15 #[.int .i64 n] w fun e w' => e = .returned (.tuple #[strV ((shapeP n).getD []), .bool (shapeP n).isSome]) ∧ w = w' := by
  by_cases h1 : n = 1
  · subst h1; exact shape_1 w
  by_cases h5 : n = 5
  · subst h5; exact shape_5 w
  by_cases h6 : n = 6
  · subst h6; exact shape_6 w
  by_cases h20 : n = 20
  · subst h20; exact shape_20 w
  by_cases h50 : n = 50
  · subst h50; exact shape_50 w
  by_cases h51 : n = 51
  · subst h51; exact shape_51 w
  by_cases h52 : n = 52
  · subst h52; exact shape_52 w
  by_cases h80 : n = 80
  · subst h80; exact shape_80 w
  by_cases h81 : n = 81
  · subst h81; exact shape_81 w
  by_cases h82 : n = 82
  · subst h82; exact shape_82 w
  by_cases h90 : n = 90
  · subst h90; exact shape_90 w
  by_cases h91 : n = 91
  · subst h91; exact shape_91 w
  by_cases h92 : n = 92
  · subst h92; exact shape_92 w
  by_cases h93 : n = 93
  · subst h93; exact shape_93 w
  by_cases h96 : n = 96
  · subst h96; exact shape_96 w
  by_cases h97 : n = 97
  · subst h97; exact shape_97 w
  by_cases h98 : n = 98
  · subst h98; exact shape_98 w
  by_cases h99 : n = 99
  · subst h99; exact shape_99 w
  by_cases h100 : n = 100
  · subst h100; exact shape_100 w
  have hs : shapeP n = none := by unfold shapeP; rw [if_neg h1, if_neg h5, if_neg h6, if_neg h20, if_neg h50, if_neg h51, if_neg h52, if_neg h80, if_neg h81, if_neg h82, if_neg h90, if_neg h91, if_neg h92, if_neg h93, if_neg h96, if_neg h97, if_neg h98, if_neg h99, if_neg h100]
  rw [hs]
  exact shape_no n w (by simpa using h1) (by simpa using h5) (by simpa using h6) (by simpa using h20) (by simpa using h50) (by simpa using h51) (by simpa using h52) (by simpa using h80) (by simpa using h81) (by simpa using h82) (by simpa using h90) (by simpa using h91) (by simpa using h92) (by simpa using h93) (by simpa using h96) (by simpa using h97) (by simpa using h98) (by simpa using h99) (by simpa using h100)

end Go.Proofs.Ytnlkgaobbobakaa
