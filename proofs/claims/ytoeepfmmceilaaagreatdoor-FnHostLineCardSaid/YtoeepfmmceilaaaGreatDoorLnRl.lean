/- impl.ReadLine of a text whose first line is an Ed25519 key's. -/
import Derived.Test.YtoeepfmmceilaaaGreatDoorLnRl1
import Derived.Test.YtoeepfmmceilaaaGreatDoorLnCalm
set_option linter.unusedVariables false
set_option linter.unusedSimpArgs false
namespace Go.Proofs.YtoeepfmmceilaaaGreatDoor
open Go.RowKit

set_option maxRecDepth 100000 in
set_option maxHeartbeats 800000 in
theorem readLine_ed (A : Option Addr) (c : Nat) (xs pt cm R : List UInt8) (p : Nat) (w : World) (hE : EdLine xs pt cm R p) (hl : xs.length ≤ 300000) (hc : xs.length ≤ c) (hm : c ≤ 9223372036854775807) (hr : RR (lit byteV) all_ w A xs) :
    Calls Tryz.prog 12 #[.slice A xs.length c] w fun e w' => (∃ A2 n2 c2 A4 n4 c4 A5 n5 c5, e = .returned (.tuple #[.agg #[.string ⟨#[]⟩, .slice none 0 0, .slice A2 n2 c2, .string ⟨(trimP (32 :: cm)).toArray⟩, .slice A4 n4 c4, .slice A5 n5 c5], .bool true])) ∧ Below w.heap.size w w' := by
  have hmf : ∀ (fn : Fn) (first cap : Array Value) (w : World), (Instr.makeFunc fn first cap).run Tryz.prog w = .ok (.func fn first cap) w := fun _ _ _ _ => rfl
  have hRL := Lib.hid (fun (W : World) (gi ge gl : Nat) (hr : RR (lit byteV) all_ W A xs) => rl1 A c xs pt cm R p W gi ge gl hE hl hc hm hr)
  have HR := Lib.hid hr
  obtain ⟨tc, htc⟩ : ∃ t, t = trimP (32 :: cm) := ⟨_, rfl⟩
  simp only [← htc] at hRL ⊢
  have hl' : ¬ (300000 : Int) < (xs.length : Int) := by omega
  clear hr hl hE htc hc hm
  go_enter Tryz.func12, Tryz.ntmps12
  go_upto_region 4 with fail
  obtain ⟨W1, hW1⟩ : ∃ W, W = ((w.alloc (.cells #[.slice A xs.length c] 28)).alloc (.cells #[.string ⟨#[]⟩, .slice none 0 0, .slice none 0 0, .string ⟨#[]⟩, .slice none 0 0, .slice none 0 0] 30)).alloc (.cells #[.nilIface] 67) := ⟨_, rfl⟩
  rw [← hW1]
  have hz : W1.heap.size = w.heap.size + 3 := by rw [hW1]; simp
  have hb1 : Below w.heap.size w W1 := by rw [hW1]; exact (((Below.refl _ _).alloc (Nat.le_refl _) _).alloc (by simp) _).alloc (by simp; omega) _
  have hbi : Blk W1 w.heap.size 28 #[.slice A xs.length c] := by rw [hW1]; exact ((Blk.new w _ _).alloc _).alloc _
  have hbl : Blk W1 (w.heap.size + 1) 30 #[.string ⟨#[]⟩, .slice none 0 0, .slice none 0 0, .string ⟨#[]⟩, .slice none 0 0, .slice none 0 0] := by
    rw [hW1]
    have := (Blk.new (w.alloc (.cells #[.slice A xs.length c] 28)) 30 #[.string ⟨#[]⟩, .slice none 0 0, .slice none 0 0, .string ⟨#[]⟩, .slice none 0 0, .slice none 0 0]).alloc (.cells #[.nilIface] 67)
    simpa using this
  have hbe : Blk W1 (w.heap.size + 1 + 1) 67 #[.nilIface] := by
    rw [hW1]
    have := Blk.new ((w.alloc (.cells #[.slice A xs.length c] 28)).alloc (.cells #[.string ⟨#[]⟩, .slice none 0 0, .slice none 0 0, .string ⟨#[]⟩, .slice none 0 0, .slice none 0 0] 30)) 67 #[.nilIface]
    simpa using this
  clear hW1
  have hbn : Below W1.heap.size W1 (W1.alloc (.cells #[.bool false] 4)) := (Below.refl _ _).alloc (Nat.le_refl _) _
  have hr1 : RR (lit byteV) all_ (W1.alloc (.cells #[.bool false] 4)) A xs := (HR.out.keep (lit_steady _) (Keep.of_below hb1)).keep (lit_steady _) (Keep.of_below hbn)
  have hcl := hRL.out (W1.alloc (.cells #[.bool false] 4)) w.heap.size (w.heap.size + 1 + 1) (w.heap.size + 1) hr1 ((hbi.alloc _).cell 0) (hbe.alloc _) (hbl.alloc _) (by omega)
  have HC := Lib.hid (calm_walk 36 #[.pointer (some ⟨w.heap.size, 0, none⟩), .pointer (some ⟨w.heap.size + 1 + 1, 0, none⟩), .pointer (some ⟨w.heap.size + 1, 0, none⟩)] W1 (fun W => LineAt W (w.heap.size + 1) tc ∧ Blk W (w.heap.size + 1 + 1) 67 #[.nilIface] ∧ Below w.heap.size w W) (fun W => by kernel_rfl)
    (hcl.mono fun e w' ⟨h0, h1, h2, h3⟩ => by
      have hnb := (Blk.new W1 4 #[.bool false]).keep h3 (show but2 _ _ _ from ⟨by omega, by omega⟩)
      refine ⟨h0, hnb.cell 0, hnb.frozen 0, h1, h2, ?_⟩
      have hs : w.heap.size ≤ w'.heap.size := Nat.le_trans (Nat.le_trans hb1.size hbn.size) h3.size
      exact ⟨h3.os.trans hb1.os, h3.tape.trans hb1.tape, h3.output.trans hb1.output, hs, fun k hk => (h3.block k (Nat.lt_of_lt_of_le hk (Nat.le_trans hb1.size hbn.size)) ⟨by omega, by omega⟩).trans ((hbn.block k (Nat.lt_of_lt_of_le hk hb1.size)).trans (hb1.block k hk))⟩))
  have HZ := Lib.hid hz
  clear hcl hr1 hbn hbi hbl hbe hb1 hz
  go_upto_region 5 with (go_at_call 35; refine HC.out.mono ?_; rintro e w2 ⟨rfl, w3, ⟨⟨A2, n2, c2, A4, n4, c4, A5, n5, c5, h4⟩, h5, h6⟩, hw2⟩; have H4 := Lib.hid h4; have H5 := Lib.hid h5; have H6 := Lib.hid h6; have HW2 := Lib.hid hw2; clear h4 h5 h6 hw2)
  have HL2 := Lib.hid (show Blk w2 (w.heap.size + 1) 30 #[.string ⟨#[]⟩, .slice none 0 0, .slice A2 n2 c2, .string ⟨tc.toArray⟩, .slice A4 n4 c4, .slice A5 n5 c5] by rw [HW2.out]; exact H4.out.far (by have := HZ.out; show w.heap.size + 1 ≠ W1.heap.size; omega) _)
  have HE2 := Lib.hid (show Blk w2 (w.heap.size + 1 + 1) 67 #[.nilIface] by rw [HW2.out]; exact H5.out.far (by have := HZ.out; show w.heap.size + 1 + 1 ≠ W1.heap.size; omega) _)
  have HB2 := Lib.hid (show Below w.heap.size w w2 by rw [HW2.out]; exact H6.out.setCell (by have := HZ.out; show w.heap.size ≤ W1.heap.size; omega) _)
  have e0 : w2.cell? ⟨w.heap.size + 1 + 1, 0, none⟩ = some .nilIface := HE2.out.cell 0
  have k0 : w2.cell? ⟨w.heap.size + 1, 0, none⟩ = some (.string ⟨#[]⟩) := HL2.out.cell 0
  have k1 : w2.cell? ⟨w.heap.size + 1, 1, none⟩ = some (.slice none 0 0) := HL2.out.cell 1
  have k2 : w2.cell? ⟨w.heap.size + 1, 2, none⟩ = some (.slice A2 n2 c2) := HL2.out.cell 2
  have k3 : w2.cell? ⟨w.heap.size + 1, 3, none⟩ = some (.string ⟨tc.toArray⟩) := HL2.out.cell 3
  have k4 : w2.cell? ⟨w.heap.size + 1, 4, none⟩ = some (.slice A4 n4 c4) := HL2.out.cell 4
  have k5 : w2.cell? ⟨w.heap.size + 1, 5, none⟩ = some (.slice A5 n5 c5) := HL2.out.cell 5
  have f0 := HL2.out.frozen 0
  have f1 := HL2.out.frozen 1
  have f2 := HL2.out.frozen 2
  have f3 := HL2.out.frozen 3
  have f4 := HL2.out.frozen 4
  have f5 := HL2.out.frozen 5
  go_wp2_with fail
  have hs6 := ((((((HL2.out.set_ 0 (.string ⟨#[]⟩)).set_ 1 (.slice none 0 0)).set_ 2 (.slice A2 n2 c2)).set_ 3 (.string ⟨tc.toArray⟩)).set_ 4 (.slice A4 n4 c4)).set_ 5 (.slice A5 n5 c5))
  have hb9 := (((((HB2.out.setCell (p := ⟨w.heap.size + 1, 0, none⟩) (by show _ ≤ w.heap.size + 1; omega) (.string ⟨#[]⟩)).setCell (p := ⟨w.heap.size + 1, 1, none⟩) (by show _ ≤ w.heap.size + 1; omega) (.slice none 0 0)).setCell (p := ⟨w.heap.size + 1, 2, none⟩) (by show _ ≤ w.heap.size + 1; omega) (.slice A2 n2 c2)).setCell (p := ⟨w.heap.size + 1, 3, none⟩) (by show _ ≤ w.heap.size + 1; omega) (.string ⟨tc.toArray⟩)).setCell (p := ⟨w.heap.size + 1, 4, none⟩) (by show _ ≤ w.heap.size + 1; omega) (.slice A4 n4 c4)).setCell (p := ⟨w.heap.size + 1, 5, none⟩) (by show _ ≤ w.heap.size + 1; omega) (.slice A5 n5 c5)
  clear k0 k1 k2 k3 k4 k5 f0 f1 f2 f3 f4 f5
  obtain ⟨W9, hW9⟩ : ∃ W, W = (((((w2.setCell ⟨w.heap.size + 1, 0, none⟩ (.string ⟨#[]⟩)).setCell ⟨w.heap.size + 1, 1, none⟩ (.slice none 0 0)).setCell ⟨w.heap.size + 1, 2, none⟩ (.slice A2 n2 c2)).setCell ⟨w.heap.size + 1, 3, none⟩ (.string ⟨tc.toArray⟩)).setCell ⟨w.heap.size + 1, 4, none⟩ (.slice A4 n4 c4)).setCell ⟨w.heap.size + 1, 5, none⟩ (.slice A5 n5 c5) := ⟨_, rfl⟩
  rw [← hW9] at hs6 hb9 ⊢
  have hs7 : Blk W9 (w.heap.size + 1) 30 #[.string ⟨#[]⟩, .slice none 0 0, .slice A2 n2 c2, .string ⟨tc.toArray⟩, .slice A4 n4 c4, .slice A5 n5 c5] := hs6
  clear hs6
  have k0 : W9.cell? ⟨w.heap.size + 1, 0, none⟩ = some (.string ⟨#[]⟩) := hs7.cell 0
  have k1 : W9.cell? ⟨w.heap.size + 1, 1, none⟩ = some (.slice none 0 0) := hs7.cell 1
  have k2 : W9.cell? ⟨w.heap.size + 1, 2, none⟩ = some (.slice A2 n2 c2) := hs7.cell 2
  have k3 : W9.cell? ⟨w.heap.size + 1, 3, none⟩ = some (.string ⟨tc.toArray⟩) := hs7.cell 3
  have k4 : W9.cell? ⟨w.heap.size + 1, 4, none⟩ = some (.slice A4 n4 c4) := hs7.cell 4
  have k5 : W9.cell? ⟨w.heap.size + 1, 5, none⟩ = some (.slice A5 n5 c5) := hs7.cell 5
  exact bodyPost_ret (v := .tuple #[.agg #[.string ⟨#[]⟩, .slice none 0 0, .slice A2 n2 c2, .string ⟨tc.toArray⟩, .slice A4 n4 c4, .slice A5 n5 c5], .bool true]) (by simp [results, Tryz.results12, go_sem, k0, k1, k2, k3, k4, k5]) rfl ⟨⟨_, _, _, _, _, _, _, _, _, rfl⟩, hb9⟩

end Go.Proofs.YtoeepfmmceilaaaGreatDoor
