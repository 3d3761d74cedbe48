/- ssh.Marshal, impl.WriteMessage$1. -/
import Derived.Test.YtnlkgaobbobakaaWLaw
import Derived.Test.YtnlkgaobbobakaaCalm
import Derived.Test.YtnlkgaobbobakaaNew
set_option linter.unusedVariables false
set_option linter.unusedSimpArgs false
namespace Go.Proofs.Ytnlkgaobbobakaa
open Go.RowKit

/-- A filled message: its block, its fields by the interface. -/
structure Filled (w : World) (gp num T F : Nat) (t : TypeId) (cs : Array Value) (L : List (UInt8 × Nat)) (vals : List Fv) : Prop where
  blk : Blk w gp t cs
  num256 : num < 256
  len : vals.length = L.length
  small : L.length ≤ 100
  got : Got (fun b => b < w.heap.size) w cs L vals
  ok : ∀ fv ∈ vals, FvOk fv
  hme : ∀ (gp : Nat) (W : World), (method 334 T (.pointer (some ⟨gp, 0, none⟩)) "ZzFields").run Try.prog W = .ok (F, .pointer (some ⟨gp, 0, none⟩)) W
  hcf : ∀ (gp : Nat) (W : World), (callFunc F #[.pointer (some ⟨gp, 0, none⟩)]).run Try.prog W = .ok (.enter F #[.pointer (some ⟨gp, 0, none⟩)]) W
  fields : ∀ (gp : Nat) (W : World), Calls Try.prog F #[.pointer (some ⟨gp, 0, none⟩)] W (FieldsEnd W gp num L)
theorem Filled.below {w w' : World} {gp num T F : Nat} {t : TypeId} {cs : Array Value} {L : List (UInt8 × Nat)} {vals : List Fv} (h : Filled w gp num T F t cs L vals) (hb : Below w.heap.size w w') : Filled w' gp num T F t cs L vals :=
  ⟨(hb.block gp h.blk.lt).trans h.blk, h.num256, h.len, h.small, fun i fv q h1 h2 => ((h.got i fv q h1 h2).away (fun _ _ _ => rfl) (Keep.of_below hb)).mono (fun b _ hb' => Nat.lt_of_lt_of_le hb' hb.size), h.ok, h.hme, h.hcf, h.fields⟩

set_option maxHeartbeats 400000 in
theorem marshal_any (w : World) (gp num T F : Nat) (t : TypeId) (cs : Array Value) (L : List (UInt8 × Nat)) (vals : List Fv) (h : Filled w gp num T F t cs L vals) :
    Calls Try.prog 30 #[.iface T (.pointer (some ⟨gp, 0, none⟩))] w (MarEnd w.heap.size w (UInt8.ofNat num :: mshAll vals)) := by
  have hb : Below w.heap.size w (w.alloc (.cells (zeros 64) 5)) := (Below.refl _ _).alloc (Nat.le_refl _) _
  have hown : (w.alloc (.cells (zeros 64) 5)).ownsRow w.heap.size 5 1 (.slice (some ⟨w.heap.size, 0, none⟩) 0 64) 0 [] :=
    ⟨rfl, .inr ⟨w.heap.size, 64, zeros 64, rfl, Nat.le_refl _, heap_alloc_new w _, by decide, by decide, by simp [zeros, ← Array.length_toList, toList_madeCells_one], rfl⟩⟩
  have h2 := h.below hb
  have HM := Lib.hid (marshal_walk w.heap.size (w.alloc (.cells (zeros 64) 5)) T F gp num t cs L vals (some ⟨w.heap.size, 0, none⟩) 64 h.num256 h2.blk h.blk.lt (by simp) h.len h.small (fun i fv q h1 h2' => ((h.got i fv q h1 h2').away (fun _ _ _ => rfl) (Keep.of_below hb))) h.ok hown (h.hme gp) (h.hcf gp) (h.fields gp))
  have hmk : ∀ W : World, (Instr.makeSlice 26 (.int .i64 0) (.int .i64 64)).run Try.prog W = .ok (.slice (some ⟨W.heap.size, 0, none⟩) 0 64) (W.alloc (.cells (zeros 64) 5)) := fun W => by
    obtain ⟨i, hi', hz, hs, hby⟩ := info_parts info_u8
    have h := run_make W 26 5 i (.int .u8 0) Try.underlying26 hi' hz .i64 .i64 0 64 (by omega) (by omega) (by rw [hby]; omega) (by omega)
    simp only [hs, Nat.mul_one, Value.cells] at h
    exact h
  have HB := Lib.hid hb
  clear h h2 hown hb
  go_enter Try.func30, Try.ntmps30
  go_wp2_with (go_at_call 33; refine HM.out.mono ?_; rintro e w2 ⟨A2, c2, rfl, hown2, hb2⟩; have HO2 := Lib.hid hown2; have HB2 := Lib.hid hb2; clear hown2 hb2)
  go_ret
  exact ⟨A2, c2, rfl, HO2.out, HB.out.trans HB2.out⟩

/-- What the closure that writes has done. -/
def WmEnd (w : World) (g2 : Nat) (l : List UInt8) (w' : World) : Prop :=
  Keep (but g2) w w' ∧ ∃ (A : Option Addr) (c : Nat), w'.cell? ⟨g2, 0, none⟩ = some (.slice A l.length c) ∧ w'.frozen? ⟨g2, 0, none⟩ = false ∧ RR (lit byteV) (fun b => w.heap.size ≤ b) w' A l ∧ l.length ≤ c ∧ c ≤ 9223372036854775807
set_option maxHeartbeats 400000 in
theorem wm1 (w : World) (g4 g2 gp num T F : Nat) (t : TypeId) (cs : Array Value) (L : List (UInt8 × Nat)) (vals : List Fv) (h : Filled w gp num T F t cs L vals) (o2 : Value)
    (h4 : w.cell? ⟨g4, 0, none⟩ = some (.iface T (.pointer (some ⟨gp, 0, none⟩)))) (h2 : w.cell? ⟨g2, 0, none⟩ = some o2) (h2f : w.frozen? ⟨g2, 0, none⟩ = false) :
    Calls Try.prog 29 #[.pointer (some ⟨g4, 0, none⟩), .pointer (some ⟨g2, 0, none⟩)] w fun e w' => e = .returned (.tuple #[]) ∧ WmEnd w g2 (UInt8.ofNat num :: mshAll vals) w' := by
  have HM := Lib.hid (marshal_any w gp num T F t cs L vals h)
  obtain ⟨l, hl⟩ : ∃ l, l = UInt8.ofNat num :: mshAll vals := ⟨_, rfl⟩
  rw [← hl] at HM
  rw [← hl]
  clear h hl
  go_enter Try.func29, Try.ntmps29
  go_wp2_with (go_at_call 30; refine HM.out.mono ?_; rintro e w2 ⟨A2, c2, rfl, hown2, hb2⟩; have HO2 := Lib.hid hown2; have HB2 := Lib.hid hb2; have h22 := (hb2.cell (blk_lt_of_cell h2)).trans h2; have h22f := (hb2.frozen (blk_lt_of_cell h2)).trans h2f; clear hown2 hb2)
  go_end0
  have hg2 := blk_lt_of_cell h2
  have hrr : RR (lit byteV) (fun b => w.heap.size ≤ b) w2 A2 l := own_RR HO2.out (fun b hb => (HO2.out.lt b hb).1)
  obtain ⟨A', c', hv, k1, k2⟩ := own_form HO2.out
  injection hv with e1 e2 e3
  refine ⟨rfl, (Keep.of_below HB2.out).setCell (fun _ ho => ho rfl) _, A2, c2, ?_, ?_, ?_, by omega, by omega⟩
  · simp [go_sem, h22]
  · simp [go_sem, h22f]
  · exact hrr.keep (lit_steady _) ((Keep.refl _ w2).setCell (fun _ ho => by simp at hg2 ho; omega) _)

end Go.Proofs.Ytnlkgaobbobakaa
