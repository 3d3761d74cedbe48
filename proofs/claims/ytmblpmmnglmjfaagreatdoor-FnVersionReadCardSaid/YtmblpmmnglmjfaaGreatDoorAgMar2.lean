/- ssh.Marshal of a filled message. Printed by gen_ag.py. -/
import Derived.Test.YtmblpmmnglmjfaaGreatDoorAgWMar
set_option linter.unusedVariables false
set_option linter.unusedSimpArgs false
namespace Go.Proofs.YtmblpmmnglmjfaaGreatDoor
open Go.RowKit

theorem FvAt.mono {ok ok' : Nat → Prop} {w : World} {cs : Array Value} {q : UInt8 × Nat} {fv : Fv} (h : FvAt ok w cs q fv) (hi : ∀ b, b < w.heap.size → ok b → ok' b) : FvAt ok' w cs q fv := by
  cases fv with
  | n v => exact h
  | s l => exact h
  | l ns => obtain ⟨h0, v, h2, h3⟩ := h; exact ⟨h0, v, h2, strs_steady.mono h3 hi⟩
  | t b => exact h
  | c l => exact h
  | r l => obtain ⟨h0, v, h2, h3⟩ := h; exact ⟨h0, v, h2, bytes_steady.mono h3 hi⟩
/-- A filled message: its block, its fields by the interface. -/
structure Filled (w : World) (gp num T F : Nat) (t : TypeId) (cs : Array Value) (L : List (UInt8 × Nat)) (vals : List Fv) : Prop where
  blk : Blk w gp t cs
  num256 : num < 256
  len : vals.length = L.length
  small : L.length ≤ 100
  got : Got (fun b => b < w.heap.size) w cs L vals
  ok : ∀ fv ∈ vals, FvOk fv
  hme : ∀ (gp : Nat) (W : World), (method 539 T (.pointer (some ⟨gp, 0, none⟩)) "ZzFields").run Tryz.prog W = .ok (F, .pointer (some ⟨gp, 0, none⟩)) W
  hcf : ∀ (gp : Nat) (W : World), (callFunc F #[.pointer (some ⟨gp, 0, none⟩)]).run Tryz.prog W = .ok (.enter F #[.pointer (some ⟨gp, 0, none⟩)]) W
  fields : ∀ (gp : Nat) (W : World), Calls Tryz.prog F #[.pointer (some ⟨gp, 0, none⟩)] W (FieldsEnd W gp num L)
theorem Filled.below {w w' : World} {gp num T F : Nat} {t : TypeId} {cs : Array Value} {L : List (UInt8 × Nat)} {vals : List Fv} (h : Filled w gp num T F t cs L vals) (hb : Below w.heap.size w w') : Filled w' gp num T F t cs L vals :=
  ⟨(hb.block gp h.blk.lt).trans h.blk, h.num256, h.len, h.small, fun i fv q h1 h2 => ((h.got i fv q h1 h2).away (fun _ _ _ => rfl) (Keep.of_below hb)).mono (fun b _ hb' => Nat.lt_of_lt_of_le hb' hb.size), h.ok, h.hme, h.hcf, h.fields⟩
set_option maxHeartbeats 400000 in
theorem marshal_any (w : World) (gp num T F : Nat) (t : TypeId) (cs : Array Value) (L : List (UInt8 × Nat)) (vals : List Fv) (h : Filled w gp num T F t cs L vals) :
    Calls Tryz.prog 39 #[.iface T (.pointer (some ⟨gp, 0, none⟩))] w (MarEnd w.heap.size w (UInt8.ofNat num :: mshAll vals)) := by
  have hb : Below w.heap.size w (w.alloc (.cells (zeros 64) 5)) := (Below.refl _ _).alloc (Nat.le_refl _) _
  have hown : (w.alloc (.cells (zeros 64) 5)).ownsRow w.heap.size 5 1 (.slice (some ⟨w.heap.size, 0, none⟩) 0 64) 0 [] :=
    ⟨rfl, .inr ⟨w.heap.size, 64, zeros 64, rfl, Nat.le_refl _, heap_alloc_new w _, by decide, by decide, by simp [zeros, ← Array.length_toList, toList_madeCells_one], rfl⟩⟩
  have h2 := h.below hb
  have HM := Lib.hid (marshal_walk w.heap.size (w.alloc (.cells (zeros 64) 5)) T F gp num t cs L vals (some ⟨w.heap.size, 0, none⟩) 64 h.num256 h2.blk h.blk.lt (by simp) h.len h.small (fun i fv q h1 h2' => ((h.got i fv q h1 h2').away (fun _ _ _ => rfl) (Keep.of_below hb))) h.ok hown (h.hme gp) (h.hcf gp) (h.fields gp))
  have hmk : ∀ W : World, (Instr.makeSlice 26 (.int .i64 0) (.int .i64 64)).run Tryz.prog W = .ok (.slice (some ⟨W.heap.size, 0, none⟩) 0 64) (W.alloc (.cells (zeros 64) 5)) := fun W => by
    obtain ⟨i, hi', hz, hs, hby⟩ := info_parts info_u8
    have h := run_make W 26 5 i (.int .u8 0) Tryz.underlying26 hi' hz .i64 .i64 0 64 (by omega) (by omega) (by rw [hby]; omega) (by omega)
    simp only [hs, Nat.mul_one, Value.cells] at h
    exact h
  have HB := Lib.hid hb
  clear h h2 hown hb
  go_enter Tryz.func39, Tryz.ntmps39
  go_wp2_with (go_at_call 44; refine HM.out.mono ?_; rintro e w2 ⟨A2, c2, rfl, hown2, hb2⟩; have HO2 := Lib.hid hown2; have HB2 := Lib.hid hb2; clear hown2 hb2)
  go_ret
  exact ⟨A2, c2, rfl, HO2.out, HB.out.trans HB2.out⟩

end Go.Proofs.YtmblpmmnglmjfaaGreatDoor
