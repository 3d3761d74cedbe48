/- The reference's bytes and line of an Ed25519 key; laws.plainKey. -/
import Derived.Test.YtoeepfmmceilaaaGreatDoorLnB64
import Derived.Test.YtoeepfmmceilaaaGreatDoorLnBytes
set_option linter.unusedVariables false
set_option linter.unusedSimpArgs false
namespace Go.Proofs.YtoeepfmmceilaaaGreatDoor
open Go.RowKit

def nameEd : List UInt8 := [115, 115, 104, 45, 101, 100, 50, 53, 53, 49, 57]
theorem typeName_ed (w : World) : Calls Tryz.prog 49 #[.int .i64 0] w fun e w' => e = .returned (.string ⟨nameEd.toArray⟩) ∧ Below w.heap.size w w' := by
  go_enter Tryz.func49, Tryz.ntmps49
  go_wp2_with fail
  go_ret
  exact ⟨rfl, (Below.refl _ _).alloc (Nat.le_refl _) _⟩

/-- The bytes of an Ed25519 key. -/
def edBytes (pt : List UInt8) : List UInt8 := strP nameEd ++ strP pt
/-- An Ed25519 key as a value. -/
def edKey (A : Option Addr) (n c : Nat) (v2 v3 v4 : Value) : Value := .agg #[.int .i64 0, .slice A n c, v2, v3, v4]
set_option maxHeartbeats 400000 in
theorem keyBody_ed (ok : Nat → Prop) (A : Option Addr) (c : Nat) (pt : List UInt8) (v2 v3 v4 : Value) (w : World) (hc : pt.length ≤ c) (hl : pt.length ≤ 100000) (hr : RR (lit byteV) ok w A pt) (h2 : v2.oneCell' = true) (h3 : v3.oneCell' = true) (h4 : v4.oneCell' = true) :
    Calls Tryz.prog 50 #[edKey A pt.length c v2 v3 v4] w (NewS w (strP pt)) := by
  have HR := Lib.hid hr
  clear hr
  have hb1 : Below w.heap.size w (w.alloc (.cells #[.int .i64 0, .slice A pt.length c, v2, v3, v4] 44)) := (Below.refl _ _).alloc (Nat.le_refl _) _
  have HS := Lib.hid (news_of (string_new ok A c pt (w.alloc (.cells #[.int .i64 0, .slice A pt.length c, v2, v3, v4] 44)) (by omega) hc (HR.out.keep (lit_steady _) (Keep.of_below hb1))))
  have HB := Lib.hid hb1
  clear hb1
  unfold edKey
  go_enter Tryz.func50, Tryz.ntmps50
  go_wp2_with (go_at_call 48; refine HS.out.mono ?_; rintro e w1 ⟨A1, c1, rfl, h1, h2, h3, h4⟩; have H1 := Lib.hid h1; have H4 := Lib.hid h4; clear h1 h4)
  go_ret
  exact ⟨A1, c1, rfl, own_base H1.out HB.out.size, h2, h3, HB.out.trans (H4.out.mono HB.out.size)⟩
theorem rr_blk {w : World} {b : Nat} {e : TypeId} {l : List UInt8} (h : Blk w b e (l.map byteV).toArray) : RR (lit byteV) (fun k => k = b) w (some ⟨b, 0, none⟩) l := fun i x hi => ⟨_, byteV x, rfl, rfl, by
  rw [show (⟨b, 0, none⟩ : Addr).add i = ⟨b, i, none⟩ by unfold Addr.add; split <;> simp_all, h.cell, List.getElem?_toArray, List.getElem?_map, hi]
  rfl, rfl⟩
/-- The point of the plain key. -/
def plainPt : List UInt8 := [1] ++ List.replicate 30 0 ++ [9]
set_option maxRecDepth 100000 in
set_option maxHeartbeats 400000 in
theorem plainKey_walk (w : World) : Calls Tryz.prog 29 #[.int .i64 0] w fun e w' => ∃ g, e = .returned (edKey (some ⟨g, 0, none⟩) 32 32 (.string ⟨#[]⟩) (.slice none 0 0) (.slice none 0 0)) ∧ w.heap.size ≤ g ∧ RR (lit byteV) (fun b => b = g) w' (some ⟨g, 0, none⟩) plainPt ∧ Below w.heap.size w w' := by
  have hz : zeros 32 = #[.int .u8 0, .int .u8 0, .int .u8 0, .int .u8 0, .int .u8 0, .int .u8 0, .int .u8 0, .int .u8 0, .int .u8 0, .int .u8 0, .int .u8 0, .int .u8 0, .int .u8 0, .int .u8 0, .int .u8 0, .int .u8 0, .int .u8 0, .int .u8 0, .int .u8 0, .int .u8 0, .int .u8 0, .int .u8 0, .int .u8 0, .int .u8 0, .int .u8 0, .int .u8 0, .int .u8 0, .int .u8 0, .int .u8 0, .int .u8 0, .int .u8 0, .int .u8 0] := by kernel_rfl
  have hmk : ∀ W : World, (Instr.makeSlice 28 (.int .i64 32) (.int .i64 32)).run Tryz.prog W = .ok (.slice (some ⟨W.heap.size, 0, none⟩) 32 32) (W.alloc (.cells #[.int .u8 0, .int .u8 0, .int .u8 0, .int .u8 0, .int .u8 0, .int .u8 0, .int .u8 0, .int .u8 0, .int .u8 0, .int .u8 0, .int .u8 0, .int .u8 0, .int .u8 0, .int .u8 0, .int .u8 0, .int .u8 0, .int .u8 0, .int .u8 0, .int .u8 0, .int .u8 0, .int .u8 0, .int .u8 0, .int .u8 0, .int .u8 0, .int .u8 0, .int .u8 0, .int .u8 0, .int .u8 0, .int .u8 0, .int .u8 0, .int .u8 0, .int .u8 0] 5)) := by
    intro W
    rw [← hz]
    exact run_make_bytes (P := Tryz.prog) Tryz.underlying28 info_u8 32 (by omega) W
  clear hz
  go_enter Tryz.func29, Tryz.ntmps29
  go_wp2_with fail
  refine bodyPost_ret (v := edKey (some ⟨w.heap.size + 1, 0, none⟩) 32 32 (.string ⟨#[]⟩) (.slice none 0 0) (.slice none 0 0)) (by simp [results, Tryz.results29, go_sem, edKey]) rfl ⟨w.heap.size + 1, rfl, by omega, ?_, ((Below.refl _ _).alloc (Nat.le_refl _) _).alloc (by simp) _⟩
  have h1 := rr_blk (l := plainPt) (Blk.new (w.alloc (.cells #[.int .i64 0, .slice (some ⟨w.heap.size + 1, 0, none⟩) 32 32, .string ⟨#[]⟩, .slice none 0 0, .slice none 0 0] 44)) 5 (plainPt.map byteV).toArray)
  rw [show ∀ o, (w.alloc o).heap.size = w.heap.size + 1 from fun o => by simp] at h1
  exact h1

end Go.Proofs.YtoeepfmmceilaaaGreatDoor
