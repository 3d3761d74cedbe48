/- What ZzFields answers for the structures of keys that bear no message number. -/
import Derived.Test.YtoeepfmmceilaaaGreatDoorLnBytes
set_option linter.unusedVariables false
set_option linter.unusedSimpArgs false
namespace Go.Proofs.YtoeepfmmceilaaaGreatDoor
open Go.RowKit

/-- The type behind a field's letter: b bytes, s a string. -/
def fieldT0 (c : UInt8) : TypeId := if c = 98 then 260 else 259
/-- A field as ZzFields hands it out: by its letter, its block, its place. -/
def fieldV0 (gp : Nat) (c : UInt8) (off : Nat) : Value := if c = 114 then .iface 262 (.agg #[.pointer (some ⟨gp, off, none⟩)]) else .iface (fieldT0 c) (.pointer (some ⟨gp, off, none⟩))
def FieldsEnd0 (w : World) (gp : Nat) (L : List (UInt8 × Nat)) (e : Ending) (w' : World) : Prop := ∃ b2, e = .returned (.tuple #[.slice none 0 0, .slice (some ⟨b2, 0, none⟩) L.length L.length]) ∧
  Blk w' b2 20 (L.map fun q => fieldV0 gp q.1 q.2).toArray ∧ w.heap.size ≤ b2 ∧ Below w.heap.size w w'
theorem FieldsEnd0.of (w : World) (gp : Nat) (L : List (UInt8 × Nat)) (n : Nat) (hn : n = L.length) (cs : Array Value) (hcs : cs = (L.map fun q => fieldV0 gp q.1 q.2).toArray) :
    FieldsEnd0 w gp L (.returned (.tuple #[.slice none 0 0, .slice (some ⟨w.heap.size, 0, none⟩) n n])) (w.alloc (.cells cs 20)) := by
  subst hn hcs
  exact ⟨w.heap.size, rfl, Blk.new _ _ _, Nat.le_refl _, (Below.refl _ _).alloc (Nat.le_refl _) _⟩
theorem FieldsEnd0.drew {w w' : World} {gp : Nat} {L : List (UInt8 × Nat)} {e : Ending} (h : FieldsEnd0 w gp L e w') : FieldsEnd0 w gp L e w'.drew := by
  obtain ⟨b2, h1, h2, h3, h4⟩ := h
  exact ⟨b2, h1, h2, h3, h4.drew⟩
set_option maxHeartbeats 1000000 in
theorem fields_edWire (w : World) (gp : Nat) : Calls Tryz.prog 246 #[.pointer (some ⟨gp, 0, none⟩)] w (FieldsEnd0 w gp [(98, 0), (114, 1)]) := by
  go_enter Tryz.func246, Tryz.ntmps246
  go_wp2_with fail
  go_region_law (fail)
  all_goals
    go_wp2
    go_ret2
    first
      | exact FieldsEnd0.drew (FieldsEnd0.of _ _ _ _ rfl _ rfl)
      | exact FieldsEnd0.of _ _ _ _ rfl _ rfl
set_option maxHeartbeats 1000000 in
theorem fields_edKey (w : World) (gp : Nat) : Calls Tryz.prog 264 #[.pointer (some ⟨gp, 0, none⟩)] w (FieldsEnd0 w gp [(115, 0), (98, 1)]) := by
  go_enter Tryz.func264, Tryz.ntmps264
  go_wp2_with fail
  go_region_law (fail)
  all_goals
    go_wp2
    go_ret2
    first
      | exact FieldsEnd0.drew (FieldsEnd0.of _ _ _ _ rfl _ rfl)
      | exact FieldsEnd0.of _ _ _ _ rfl _ rfl

end Go.Proofs.YtoeepfmmceilaaaGreatDoor
