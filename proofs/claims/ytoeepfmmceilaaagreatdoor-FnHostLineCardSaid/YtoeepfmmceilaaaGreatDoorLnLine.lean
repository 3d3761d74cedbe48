/- spec.LineText of an Ed25519 key. -/
import Derived.Test.YtoeepfmmceilaaaGreatDoorLnKeyB
set_option linter.unusedVariables false
set_option linter.unusedSimpArgs false
namespace Go.Proofs.YtoeepfmmceilaaaGreatDoor
open Go.RowKit

theorem edBytes_len (pt : List UInt8) : (edBytes pt).length = 19 + pt.length := by
  simp [edBytes, strP, be4, nameEd]
  omega
set_option maxRecDepth 100000 in
set_option maxHeartbeats 1600000 in
theorem lineText_ed (ok : Nat → Prop) (A : Option Addr) (c : Nat) (pt : List UInt8) (v2 v3 v4 : Value) (w : World) (hc : pt.length ≤ c) (hl : pt.length ≤ 100000) (hr : RR (lit byteV) ok w A pt) (h2 : v2.oneCell' = true) (h3 : v3.oneCell' = true) (h4 : v4.oneCell' = true) :
    Calls Tryz.prog 25 #[edKey A pt.length c v2 v3 v4] w fun e w' => e = .returned (.string ⟨(nameEd ++ [32] ++ b64P (edBytes pt)).toArray⟩) ∧ Below w.heap.size w w' := by
  have HR := Lib.hid hr
  have KB := Lib.hid (fun (W : World) (hb : Below w.heap.size w W) => keyBytes_ed ok A c pt v2 v3 v4 W hc hl (HR.out.keep (lit_steady _) (Keep.of_below hb)) h2 h3 h4)
  clear hr
  obtain ⟨Bs, hBs⟩ : ∃ B, B = b64P (edBytes pt) := ⟨_, rfl⟩
  have hbl : Bs.length ≤ 2000000 := by rw [hBs, b64P_len, edBytes_len]; omega
  have hel := edBytes_len pt
  have HB6 := Lib.hid (fun (W : World) (A : Option Addr) (c : Nat) (h : RR (lit byteV) all_ W A (edBytes pt)) => base64_walk all_ A c (edBytes pt) W (by omega) h)
  rw [← hBs] at HB6 ⊢
  have hkb0 : Blk (w.alloc (.cells #[.int .i64 0, .slice A pt.length c, v2, v3, v4] 44)) w.heap.size 44 #[.int .i64 0, .slice A pt.length c, v2, v3, v4] := Blk.new _ _ _
  have K1 : ∀ W : World, Below (w.heap.size + 1) (w.alloc (.cells #[.int .i64 0, .slice A pt.length c, v2, v3, v4] 44)) W →
      W.cell? ⟨w.heap.size, 0, none⟩ = some (.int .i64 0) ∧ W.cell? ⟨w.heap.size, 1, none⟩ = some (.slice A pt.length c) ∧ W.cell? ⟨w.heap.size, 2, none⟩ = some v2 ∧ W.cell? ⟨w.heap.size, 3, none⟩ = some v3 ∧ W.cell? ⟨w.heap.size, 4, none⟩ = some v4 ∧ Below w.heap.size w W := by
    intro W hb1
    have hk : Blk W w.heap.size 44 #[.int .i64 0, .slice A pt.length c, v2, v3, v4] := (hb1.block w.heap.size (by omega)).trans hkb0
    exact ⟨hk.cell 0, hk.cell 1, hk.cell 2, hk.cell 3, hk.cell 4, ((Below.refl _ _).alloc (Nat.le_refl _) _).trans (hb1.mono (by omega))⟩
  have K1 := Lib.hid K1
  have HBS := Lib.hid hBs
  have HEL := Lib.hid hel
  clear hkb0 hBs hel
  have hnl : nameEd.length = 11 := rfl
  have hk1 : (9223372036854775807 < 12 + Bs.length) = False := eq_false (by omega)
  have hk2 : (9223372036854775807 < 11 + 1 + Bs.length) = False := eq_false (by omega)
  unfold edKey at KB ⊢
  go_enter Tryz.func25, Tryz.ntmps25
  go_wp2_with fail
  go_region_law (first
    | (go_simp; go_at_call 49; refine (typeName_ed _).mono ?_; rintro e w1 ⟨rfl, hb1⟩; obtain ⟨j0, j1, j2, j3, j4, hbb⟩ := K1.out w1 (by have q := hb1; exact ⟨q.os, q.tape, q.output, by simpa using q.size, fun k hk => q.block k (by simpa using hk)⟩); have HBB := Lib.hid hbb; clear hb1 hbb)
    | (go_simp; go_at_call 24; refine (KB.out _ HBB.out).mono ?_; rintro e w3 ⟨A3, c3, rfl, h5, h6, h7, h8⟩; have H5 := Lib.hid h5; have H8 := Lib.hid h8; clear h5 h8)
    | (go_simp; go_at_call 28; refine (HB6.out _ A3 c3 (own_RR H5.out (fun _ _ => trivial))).mono ?_; rintro e w4 ⟨rfl, hw4⟩; (have hw4 := hw4.symm); subst hw4; simp only [strV]))
  all_goals
    go_wp2_with fail
    go_ret
    refine ⟨?_, HBB.out.trans (H8.out.mono HBB.out.size)⟩
    have h1 : (⟨nameEd.toArray⟩ : ByteArray) ++ ⟨#[32]⟩ ++ ⟨Bs.toArray⟩ = ⟨(nameEd ++ [32] ++ Bs).toArray⟩ := by rw [str_one, str_app]
    exact congrArg (fun s => Ending.returned (Value.string s)) (h1.trans (by simp))

end Go.Proofs.YtoeepfmmceilaaaGreatDoor
