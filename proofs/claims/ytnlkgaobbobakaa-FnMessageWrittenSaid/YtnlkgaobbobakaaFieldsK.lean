/- The fields of the message of the exchange of keys. Printed by gen_fields.py. -/
import Derived.Test.YtnlkgaobbobakaaFields
set_option linter.unusedVariables false
set_option linter.unusedSimpArgs false
namespace Go.Proofs.Ytnlkgaobbobakaa
open Go.RowKit
set_option maxRecDepth 100000 in
set_option maxHeartbeats 4000000 in
theorem fields_20 (w : World) (gp : Nat) : Calls Try.prog 91 #[.pointer (some ⟨gp, 0, none⟩)] w (FieldsEnd w gp 20 [(99, 0), (108, 16), (108, 17), (108, 18), (108, 19), (108, 20), (108, 21), (108, 22), (108, 23), (108, 24), (108, 25), (116, 26), (110, 27)]) := by
  go_enter Try.func91, Try.ntmps91
  go_wp2_with fail
  go_region_law (fail)
  all_goals
    go_wp2
    go_ret2
    first
      | exact FieldsEnd.drew (fields_12 _ _ _ _ _ _ _ rfl rfl _ rfl rfl)
      | exact FieldsEnd.drew (fields_21 _ _ _ _ _ _ _ rfl rfl _ rfl rfl)

end Go.Proofs.Ytnlkgaobbobakaa
