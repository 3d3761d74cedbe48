/- The fields of the messages of ssh: what ZzFields answers, a theorem a message. Printed by gen_fields.py. -/
import Derived.Test.YtnlkgaobbobakaaRdr
set_option linter.unusedVariables false
set_option linter.unusedSimpArgs false
namespace Go.Proofs.Ytnlkgaobbobakaa
open Go.RowKit

def fieldT (c : UInt8) : TypeId := if c = 110 then 64 else if c = 115 then 65 else if c = 108 then 67 else if c = 116 then 68 else 69
/-- A field as ZzFields hands it out: by its letter, its block, its place. -/
def fieldV (gp : Nat) (c : UInt8) (off : Nat) : Value := if c = 114 then .iface 71 (.agg #[.pointer (some ⟨gp, off, none⟩)]) else .iface (fieldT c) (.pointer (some ⟨gp, off, none⟩))
def FieldsEnd (w : World) (gp num : Nat) (L : List (UInt8 × Nat)) (e : Ending) (w' : World) : Prop := ∃ b1 b2, e = .returned (.tuple #[.slice (some ⟨b1, 0, none⟩) 1 1, .slice (some ⟨b2, 0, none⟩) L.length L.length]) ∧
  Blk w' b1 5 #[.int .u8 (num : Int)] ∧ Blk w' b2 20 (L.map fun q => fieldV gp q.1 q.2).toArray ∧ w.heap.size ≤ b1 ∧ w.heap.size ≤ b2 ∧ Below w.heap.size w w'
theorem FieldsEnd.drew {w w' : World} {gp num : Nat} {L : List (UInt8 × Nat)} {e : Ending} (h : FieldsEnd w gp num L e w') : FieldsEnd w gp num L e w'.drew := by
  obtain ⟨b1, b2, h1, h2, h3, h4, h5, h6⟩ := h
  exact ⟨b1, b2, h1, h2, h3, h4, h5, h6.drew⟩
theorem fields_12 (w : World) (gp num : Nat) (L : List (UInt8 × Nat)) (t1 t2 : TypeId) (n : Nat) (h1 : t1 = 5) (h2 : t2 = 20) (cs : Array Value) (hcs : cs = (L.map fun q => fieldV gp q.1 q.2).toArray) (hn : n = L.length) :
    FieldsEnd w gp num L (.returned (.tuple #[.slice (some ⟨w.heap.size, 0, none⟩) 1 1, .slice (some ⟨w.heap.size + 1, 0, none⟩) n n])) ((w.alloc (.cells #[.int .u8 (num : Int)] t1)).alloc (.cells cs t2)) := by
  subst h1 h2 hcs hn
  refine ⟨w.heap.size, w.heap.size + 1, rfl, (Blk.new _ _ _).alloc _, ?_, Nat.le_refl _, by omega, ((Below.refl _ _).alloc (Nat.le_refl _) _).alloc (by simp) _⟩
  have := Blk.new (w.alloc (.cells #[.int .u8 (num : Int)] 5)) 20 (L.map fun q => fieldV gp q.1 q.2).toArray
  simpa using this
theorem fields_21 (w : World) (gp num : Nat) (L : List (UInt8 × Nat)) (t1 t2 : TypeId) (n : Nat) (h1 : t1 = 5) (h2 : t2 = 20) (cs : Array Value) (hcs : cs = (L.map fun q => fieldV gp q.1 q.2).toArray) (hn : n = L.length) :
    FieldsEnd w gp num L (.returned (.tuple #[.slice (some ⟨w.heap.size + 1, 0, none⟩) 1 1, .slice (some ⟨w.heap.size, 0, none⟩) n n])) ((w.alloc (.cells cs t2)).alloc (.cells #[.int .u8 (num : Int)] t1)) := by
  subst h1 h2 hcs hn
  refine ⟨w.heap.size + 1, w.heap.size, rfl, ?_, (Blk.new _ _ _).alloc _, by omega, Nat.le_refl _, ((Below.refl _ _).alloc (Nat.le_refl _) _).alloc (by simp) _⟩
  have := Blk.new (w.alloc (.cells (L.map fun q => fieldV gp q.1 q.2).toArray 20)) 5 #[.int .u8 (num : Int)]
  simpa using this

set_option maxHeartbeats 1000000 in
theorem fields_1 (w : World) (gp : Nat) : Calls Try.prog 87 #[.pointer (some ⟨gp, 0, none⟩)] w (FieldsEnd w gp 1 [(110, 0), (115, 1), (115, 2)]) := by
  go_enter Try.func87, Try.ntmps87
  go_wp2_with fail
  go_region_law (fail)
  all_goals
    go_wp2
    go_ret2
    first
      | exact FieldsEnd.drew (fields_12 _ _ _ _ _ _ _ rfl rfl _ rfl rfl)
      | exact FieldsEnd.drew (fields_21 _ _ _ _ _ _ _ rfl rfl _ rfl rfl)
set_option maxHeartbeats 1000000 in
theorem fields_5 (w : World) (gp : Nat) : Calls Try.prog 88 #[.pointer (some ⟨gp, 0, none⟩)] w (FieldsEnd w gp 5 [(115, 0)]) := by
  go_enter Try.func88, Try.ntmps88
  go_wp2_with fail
  go_region_law (fail)
  all_goals
    go_wp2
    go_ret2
    first
      | exact FieldsEnd.drew (fields_12 _ _ _ _ _ _ _ rfl rfl _ rfl rfl)
      | exact FieldsEnd.drew (fields_21 _ _ _ _ _ _ _ rfl rfl _ rfl rfl)
set_option maxHeartbeats 1000000 in
theorem fields_6 (w : World) (gp : Nat) : Calls Try.prog 89 #[.pointer (some ⟨gp, 0, none⟩)] w (FieldsEnd w gp 6 [(115, 0)]) := by
  go_enter Try.func89, Try.ntmps89
  go_wp2_with fail
  go_region_law (fail)
  all_goals
    go_wp2
    go_ret2
    first
      | exact FieldsEnd.drew (fields_12 _ _ _ _ _ _ _ rfl rfl _ rfl rfl)
      | exact FieldsEnd.drew (fields_21 _ _ _ _ _ _ _ rfl rfl _ rfl rfl)
set_option maxHeartbeats 1000000 in
theorem fields_50 (w : World) (gp : Nat) : Calls Try.prog 92 #[.pointer (some ⟨gp, 0, none⟩)] w (FieldsEnd w gp 50 [(115, 0), (115, 1), (115, 2), (114, 3)]) := by
  go_enter Try.func92, Try.ntmps92
  go_wp2_with fail
  go_region_law (fail)
  all_goals
    go_wp2
    go_ret2
    first
      | exact FieldsEnd.drew (fields_12 _ _ _ _ _ _ _ rfl rfl _ rfl rfl)
      | exact FieldsEnd.drew (fields_21 _ _ _ _ _ _ _ rfl rfl _ rfl rfl)
set_option maxHeartbeats 1000000 in
theorem fields_51 (w : World) (gp : Nat) : Calls Try.prog 93 #[.pointer (some ⟨gp, 0, none⟩)] w (FieldsEnd w gp 51 [(108, 0), (116, 1)]) := by
  go_enter Try.func93, Try.ntmps93
  go_wp2_with fail
  go_region_law (fail)
  all_goals
    go_wp2
    go_ret2
    first
      | exact FieldsEnd.drew (fields_12 _ _ _ _ _ _ _ rfl rfl _ rfl rfl)
      | exact FieldsEnd.drew (fields_21 _ _ _ _ _ _ _ rfl rfl _ rfl rfl)
set_option maxHeartbeats 1000000 in
theorem fields_80 (w : World) (gp : Nat) : Calls Try.prog 96 #[.pointer (some ⟨gp, 0, none⟩)] w (FieldsEnd w gp 80 [(115, 0), (116, 1), (114, 2)]) := by
  go_enter Try.func96, Try.ntmps96
  go_wp2_with fail
  go_region_law (fail)
  all_goals
    go_wp2
    go_ret2
    first
      | exact FieldsEnd.drew (fields_12 _ _ _ _ _ _ _ rfl rfl _ rfl rfl)
      | exact FieldsEnd.drew (fields_21 _ _ _ _ _ _ _ rfl rfl _ rfl rfl)
set_option maxHeartbeats 1000000 in
theorem fields_81 (w : World) (gp : Nat) : Calls Try.prog 97 #[.pointer (some ⟨gp, 0, none⟩)] w (FieldsEnd w gp 81 [(114, 0)]) := by
  go_enter Try.func97, Try.ntmps97
  go_wp2_with fail
  go_region_law (fail)
  all_goals
    go_wp2
    go_ret2
    first
      | exact FieldsEnd.drew (fields_12 _ _ _ _ _ _ _ rfl rfl _ rfl rfl)
      | exact FieldsEnd.drew (fields_21 _ _ _ _ _ _ _ rfl rfl _ rfl rfl)
set_option maxHeartbeats 1000000 in
theorem fields_82 (w : World) (gp : Nat) : Calls Try.prog 98 #[.pointer (some ⟨gp, 0, none⟩)] w (FieldsEnd w gp 82 [(114, 0)]) := by
  go_enter Try.func98, Try.ntmps98
  go_wp2_with fail
  go_region_law (fail)
  all_goals
    go_wp2
    go_ret2
    first
      | exact FieldsEnd.drew (fields_12 _ _ _ _ _ _ _ rfl rfl _ rfl rfl)
      | exact FieldsEnd.drew (fields_21 _ _ _ _ _ _ _ rfl rfl _ rfl rfl)
set_option maxHeartbeats 1000000 in
theorem fields_90 (w : World) (gp : Nat) : Calls Try.prog 99 #[.pointer (some ⟨gp, 0, none⟩)] w (FieldsEnd w gp 90 [(115, 0), (110, 1), (110, 2), (110, 3), (114, 4)]) := by
  go_enter Try.func99, Try.ntmps99
  go_wp2_with fail
  go_region_law (fail)
  all_goals
    go_wp2
    go_ret2
    first
      | exact FieldsEnd.drew (fields_12 _ _ _ _ _ _ _ rfl rfl _ rfl rfl)
      | exact FieldsEnd.drew (fields_21 _ _ _ _ _ _ _ rfl rfl _ rfl rfl)
set_option maxHeartbeats 1000000 in
theorem fields_91 (w : World) (gp : Nat) : Calls Try.prog 100 #[.pointer (some ⟨gp, 0, none⟩)] w (FieldsEnd w gp 91 [(110, 0), (110, 1), (110, 2), (110, 3), (114, 4)]) := by
  go_enter Try.func100, Try.ntmps100
  go_wp2_with fail
  go_region_law (fail)
  all_goals
    go_wp2
    go_ret2
    first
      | exact FieldsEnd.drew (fields_12 _ _ _ _ _ _ _ rfl rfl _ rfl rfl)
      | exact FieldsEnd.drew (fields_21 _ _ _ _ _ _ _ rfl rfl _ rfl rfl)
set_option maxHeartbeats 1000000 in
theorem fields_92 (w : World) (gp : Nat) : Calls Try.prog 101 #[.pointer (some ⟨gp, 0, none⟩)] w (FieldsEnd w gp 92 [(110, 0), (110, 1), (115, 2), (115, 3)]) := by
  go_enter Try.func101, Try.ntmps101
  go_wp2_with fail
  go_region_law (fail)
  all_goals
    go_wp2
    go_ret2
    first
      | exact FieldsEnd.drew (fields_12 _ _ _ _ _ _ _ rfl rfl _ rfl rfl)
      | exact FieldsEnd.drew (fields_21 _ _ _ _ _ _ _ rfl rfl _ rfl rfl)
set_option maxHeartbeats 1000000 in
theorem fields_93 (w : World) (gp : Nat) : Calls Try.prog 102 #[.pointer (some ⟨gp, 0, none⟩)] w (FieldsEnd w gp 93 [(110, 0), (110, 1)]) := by
  go_enter Try.func102, Try.ntmps102
  go_wp2_with fail
  go_region_law (fail)
  all_goals
    go_wp2
    go_ret2
    first
      | exact FieldsEnd.drew (fields_12 _ _ _ _ _ _ _ rfl rfl _ rfl rfl)
      | exact FieldsEnd.drew (fields_21 _ _ _ _ _ _ _ rfl rfl _ rfl rfl)
set_option maxHeartbeats 1000000 in
theorem fields_96 (w : World) (gp : Nat) : Calls Try.prog 104 #[.pointer (some ⟨gp, 0, none⟩)] w (FieldsEnd w gp 96 [(110, 0)]) := by
  go_enter Try.func104, Try.ntmps104
  go_wp2_with fail
  go_region_law (fail)
  all_goals
    go_wp2
    go_ret2
    first
      | exact FieldsEnd.drew (fields_12 _ _ _ _ _ _ _ rfl rfl _ rfl rfl)
      | exact FieldsEnd.drew (fields_21 _ _ _ _ _ _ _ rfl rfl _ rfl rfl)
set_option maxHeartbeats 1000000 in
theorem fields_97 (w : World) (gp : Nat) : Calls Try.prog 105 #[.pointer (some ⟨gp, 0, none⟩)] w (FieldsEnd w gp 97 [(110, 0)]) := by
  go_enter Try.func105, Try.ntmps105
  go_wp2_with fail
  go_region_law (fail)
  all_goals
    go_wp2
    go_ret2
    first
      | exact FieldsEnd.drew (fields_12 _ _ _ _ _ _ _ rfl rfl _ rfl rfl)
      | exact FieldsEnd.drew (fields_21 _ _ _ _ _ _ _ rfl rfl _ rfl rfl)
set_option maxHeartbeats 1000000 in
theorem fields_98 (w : World) (gp : Nat) : Calls Try.prog 106 #[.pointer (some ⟨gp, 0, none⟩)] w (FieldsEnd w gp 98 [(110, 0), (115, 1), (116, 2), (114, 3)]) := by
  go_enter Try.func106, Try.ntmps106
  go_wp2_with fail
  go_region_law (fail)
  all_goals
    go_wp2
    go_ret2
    first
      | exact FieldsEnd.drew (fields_12 _ _ _ _ _ _ _ rfl rfl _ rfl rfl)
      | exact FieldsEnd.drew (fields_21 _ _ _ _ _ _ _ rfl rfl _ rfl rfl)
set_option maxHeartbeats 1000000 in
theorem fields_99 (w : World) (gp : Nat) : Calls Try.prog 107 #[.pointer (some ⟨gp, 0, none⟩)] w (FieldsEnd w gp 99 [(110, 0)]) := by
  go_enter Try.func107, Try.ntmps107
  go_wp2_with fail
  go_region_law (fail)
  all_goals
    go_wp2
    go_ret2
    first
      | exact FieldsEnd.drew (fields_12 _ _ _ _ _ _ _ rfl rfl _ rfl rfl)
      | exact FieldsEnd.drew (fields_21 _ _ _ _ _ _ _ rfl rfl _ rfl rfl)
set_option maxHeartbeats 1000000 in
theorem fields_100 (w : World) (gp : Nat) : Calls Try.prog 108 #[.pointer (some ⟨gp, 0, none⟩)] w (FieldsEnd w gp 100 [(110, 0)]) := by
  go_enter Try.func108, Try.ntmps108
  go_wp2_with fail
  go_region_law (fail)
  all_goals
    go_wp2
    go_ret2
    first
      | exact FieldsEnd.drew (fields_12 _ _ _ _ _ _ _ rfl rfl _ rfl rfl)
      | exact FieldsEnd.drew (fields_21 _ _ _ _ _ _ _ rfl rfl _ rfl rfl)

end Go.Proofs.Ytnlkgaobbobakaa
