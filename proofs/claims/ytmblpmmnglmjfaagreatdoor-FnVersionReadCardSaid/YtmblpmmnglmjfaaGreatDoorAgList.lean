/- agent.keyring and agent.server of an empty keyring: the answer to the request [11]. -/
import Derived.Test.YtmblpmmnglmjfaaGreatDoorAgMar2
import Derived.LoopN
set_option linter.unusedVariables false
set_option linter.unusedSimpArgs false
namespace Go.Proofs.YtmblpmmnglmjfaaGreatDoor
open Go.RowKit

theorem expire_nil (w : World) (gk : Nat) (v0 v3 : Value) (hb : Blk w gk 93 #[v0, .slice none 0 0, .bool false, v3]) :
    Calls Tryz.prog 127 #[.pointer (some ⟨gk, 0, none⟩)] w fun e w' => e = .returned (.tuple #[]) ∧ w' = w := by
  have k1 := hb.cell 1
  clear hb
  go_enter Tryz.func127, Tryz.ntmps127
  go_wp2_with fail
  refine wp_loop_rounds 1 ?_
  rw [rounds_succ]
  go_wp2_with fail
  go_end0
  exact ⟨rfl, rfl⟩

theorem list_nil (w : World) (gk : Nat) (v0 v3 : Value) (hb : Blk w gk 93 #[v0, .slice none 0 0, .bool false, v3]) :
    Calls Tryz.prog 119 #[.pointer (some ⟨gk, 0, none⟩)] w fun e w' => e = .returned (.tuple #[.slice none 0 0, .nilIface]) ∧ w' = w := by
  have k1 := hb.cell 1
  have k2 := hb.cell 2
  have HE := Lib.hid (expire_nil w gk v0 v3 hb)
  clear hb
  go_enter Tryz.func119, Tryz.ntmps119
  go_wp2_with (go_at_call 127; refine HE.out.mono ?_; rintro e w1 ⟨rfl, rfl⟩)
  refine wp_loop_rounds 1 ?_
  rw [rounds_succ]
  go_wp2_with fail
  go_ret2
  exact ⟨rfl, rfl⟩

set_option maxRecDepth 100000 in
set_option maxHeartbeats 1600000 in
theorem process_11 (w : World) (gs gk b c : Nat) (v0 v3 : Value) (t : TypeId) (hs : Blk w gs 79 #[.iface 90 (.pointer (some ⟨gk, 0, none⟩))]) (hb : Blk w gk 93 #[v0, .slice none 0 0, .bool false, v3]) (hr : Blk w b t #[.int .u8 11]) :
    Calls Tryz.prog 38 #[.pointer (some ⟨gs, 0, none⟩), .slice (some ⟨b, 0, none⟩) 1 c] w fun e w' =>
      (∃ g, e = .returned (.tuple #[.iface 156 (.pointer (some ⟨g, 0, none⟩)), .nilIface]) ∧ w.heap.size ≤ g ∧ Blk w' g 154 #[.int .u32 0, .slice none 0 0]) ∧ Below w.heap.size w w' := by
  have k0 := hs.cell 0
  have r0 := hr.cell 0
  have HL := Lib.hid (list_nil w gk v0 v3 hb)
  have hme : ∀ W : World, (method 539 90 (.pointer (some ⟨gk, 0, none⟩)) "List").run Tryz.prog W = .ok (119, .pointer (some ⟨gk, 0, none⟩)) W := fun W => by kernel_rfl
  have hcf : ∀ W : World, (callFunc 119 #[.pointer (some ⟨gk, 0, none⟩)]).run Tryz.prog W = .ok (.enter 119 #[.pointer (some ⟨gk, 0, none⟩)]) W := fun W => by kernel_rfl
  clear hs hb hr
  go_enter Tryz.func38, Tryz.ntmps38
  go_wp2_with fail
  refine HL.out.mono ?_
  rintro e w1 ⟨rfl, rfl⟩
  go_wp2_with fail
  refine wp_loop_rounds 1 ?_
  rw [rounds_succ]
  go_wp2_with fail
  go_ret2
  exact ⟨⟨_, rfl, Nat.le_refl _, Blk.new _ _ _⟩, (Below.refl _ _).alloc (Nat.le_refl _) _⟩

set_option maxHeartbeats 1000000 in
theorem fields_ids (w : World) (gp : Nat) : Calls Tryz.prog 145 #[.pointer (some ⟨gp, 0, none⟩)] w (FieldsEnd w gp 12 [(110, 0), (114, 1)]) := by
  go_enter Tryz.func145, Tryz.ntmps145
  go_wp2_with fail
  go_region_law (fail)
  all_goals
    go_wp2
    go_ret2
    first
      | exact FieldsEnd.drew (fields_12 _ _ _ _ _ _ _ rfl rfl _ rfl rfl)
      | exact FieldsEnd.drew (fields_21 _ _ _ _ _ _ _ rfl rfl _ rfl rfl)

theorem filled_ids (w : World) (g : Nat) (hb : Blk w g 154 #[.int .u32 0, .slice none 0 0]) :
    Filled w g 12 156 145 154 #[.int .u32 0, .slice none 0 0] [(110, 0), (114, 1)] [.n 0, .r []] :=
  ⟨hb, by decide, rfl, by simp, fun i fv q h1 h2 => by
    match i, h1, h2 with
    | 0, h1, h2 => injection h1 with h1; injection h2 with h2; subst h1 h2; exact ⟨rfl, rfl⟩
    | 1, h1, h2 => injection h1 with h1; injection h2 with h2; subst h1 h2; exact ⟨rfl, _, rfl, SL.none_ _ _ _⟩
    | n + 2, h1, h2 => simp at h1, fun fv hfv => by
    rcases List.mem_cons.1 hfv with rfl | hfv
    · show 0 < _; omega
    · obtain rfl : fv = .r [] := by simpa using hfv
      show List.length [] ≤ _; simp, fun gp W => by kernel_rfl, fun gp W => by kernel_rfl, fun gp W => fields_ids W gp⟩

theorem own_base {w : World} {B B' : Nat} {e : TypeId} {size n : Nat} {v : Value} {xs : List Value} (h : w.ownsRow B e size v n xs) (hB : B' ≤ B) : w.ownsRow B' e size v n xs := by
  refine ⟨h.1, ?_⟩
  rcases h.2 with h | ⟨g, cap, cur, h1, h2, h3⟩
  · exact .inl h
  · exact .inr ⟨g, cap, cur, h1, Nat.le_trans hB h2, h3⟩
theorem bytes_11 (w : World) (gs gk b c : Nat) (v0 v3 : Value) (t : TypeId) (hs : Blk w gs 79 #[.iface 90 (.pointer (some ⟨gk, 0, none⟩))]) (hb : Blk w gk 93 #[v0, .slice none 0 0, .bool false, v3]) (hr : Blk w b t #[.int .u8 11]) :
    Calls Tryz.prog 32 #[.pointer (some ⟨gs, 0, none⟩), .slice (some ⟨b, 0, none⟩) 1 c] w (MarEnd w.heap.size w [12, 0, 0, 0, 0]) := by
  have HP := Lib.hid (process_11 w gs gk b c v0 v3 t hs hb hr)
  clear hs hb hr
  go_enter Tryz.func32, Tryz.ntmps32
  go_wp2_with (go_at_call 38; refine HP.out.mono ?_; rintro e w1 ⟨⟨g, rfl, hg, hbk⟩, hb1⟩; have HF := Lib.hid (marshal_any w1 g 12 _ _ _ _ _ _ (filled_ids w1 g hbk)); have HB1 := Lib.hid hb1; clear hbk hb1)
  refine HF.out.mono ?_
  rintro e w2 ⟨A, c2, rfl, hown, hb2⟩
  have HO := Lib.hid hown
  have HB2 := Lib.hid hb2
  clear hown hb2
  go_wp2_with fail
  go_ret
  exact ⟨A, c2, rfl, own_base HO.out HB1.out.size, HB1.out.trans (HB2.out.mono HB1.out.size)⟩

end Go.Proofs.YtmblpmmnglmjfaaGreatDoor
