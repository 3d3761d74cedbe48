/- spec.KeyBytes and spec.LineText of an Ed25519 key. -/
import Derived.Test.YtoeepfmmceilaaaGreatDoorLnKeyS
import Derived.Lib.ConvBytes
set_option linter.unusedVariables false
set_option linter.unusedSimpArgs false
namespace Go.Proofs.YtoeepfmmceilaaaGreatDoor
open Go.RowKit

/-- The new row of '[]byte(s)'. -/
theorem conv_new (W : World) (s : List UInt8) (t : TypeId) (ht : Tryz.prog.underlying t = some .string) : ∃ W' c, (convert t 28 (.string ⟨s.toArray⟩)).run Tryz.prog W = .ok (.slice (some ⟨W.heap.size, 0, none⟩) s.length c) W' ∧ Hid (s.length ≤ c) ∧ Hid (RR (lit byteV) (fun b => b = W.heap.size) W' (some ⟨W.heap.size, 0, none⟩) s) ∧ Hid (Below W.heap.size W W') := by
  have hr := Lib.run_convert_string_bytes (P := Tryz.prog) W t 28 5 ⟨s.toArray⟩ ht Tryz.underlying28 Tryz.underlying5
  have hsz : (⟨s.toArray⟩ : ByteArray).size = s.length := by simp [ByteArray.size]
  refine ⟨_, _, hr, ?_, ?_, ?_⟩
  · show s.length ≤ _
    rw [← hsz]
    exact grownCap_ge _ _ _ _
  · intro i x hx
    have hlt := (List.getElem?_eq_some_iff.1 hx).1
    refine ⟨_, byteV x, rfl, rfl, ?_, rfl⟩
    rw [show (⟨W.heap.size, 0, none⟩ : Addr).add i = ⟨W.heap.size, i, none⟩ by unfold Addr.add; split <;> simp_all, Lib.bytesWorld_cell _ _ _ _ (by rw [hsz]; exact hlt)]
    simp [byteV, List.getD, hx]
  · exact ⟨rfl, rfl, rfl, by rw [Lib.bytesWorld_size]; omega, fun k hk => Lib.bytesWorld_at_old W _ _ k hk⟩

theorem conv_RR (W : World) (s : List UInt8) : RR (lit byteV) (fun b => b = W.heap.size) (Lib.bytesWorld W 5 ⟨s.toArray⟩) (some ⟨W.heap.size, 0, none⟩) s := by
  intro i x hx
  have hlt := (List.getElem?_eq_some_iff.1 hx).1
  refine ⟨_, byteV x, rfl, rfl, ?_, rfl⟩
  rw [show (⟨W.heap.size, 0, none⟩ : Addr).add i = ⟨W.heap.size, i, none⟩ by unfold Addr.add; split <;> simp_all, Lib.bytesWorld_cell _ _ _ _ (by simpa [ByteArray.size] using hlt)]
  simp [byteV, List.getD, hx]
theorem conv_below (W : World) (s : List UInt8) : Below W.heap.size W (Lib.bytesWorld W 5 ⟨s.toArray⟩) := ⟨rfl, rfl, rfl, by rw [Lib.bytesWorld_size]; omega, fun k hk => Lib.bytesWorld_at_old W _ _ k hk⟩

set_option maxRecDepth 100000 in
set_option maxHeartbeats 1600000 in
theorem keyBytes_ed (ok : Nat → Prop) (A : Option Addr) (c : Nat) (pt : List UInt8) (v2 v3 v4 : Value) (w : World) (hc : pt.length ≤ c) (hl : pt.length ≤ 100000) (hr : RR (lit byteV) ok w A pt) (h2 : v2.oneCell' = true) (h3 : v3.oneCell' = true) (h4 : v4.oneCell' = true) :
    Calls Tryz.prog 24 #[edKey A pt.length c v2 v3 v4] w (NewS w (edBytes pt)) := by
  have HR := Lib.hid hr
  have KB := Lib.hid (fun (W : World) (hb : Below w.heap.size w W) => keyBody_ed ok A c pt v2 v3 v4 W hc hl (HR.out.keep (lit_steady _) (Keep.of_below hb)) h2 h3 h4)
  clear hr
  have hkb0 : Blk (w.alloc (.cells #[.int .i64 0, .slice A pt.length c, v2, v3, v4] 44)) w.heap.size 44 #[.int .i64 0, .slice A pt.length c, v2, v3, v4] := Blk.new _ _ _
  have KX := Lib.hid (fun (W : World) (hb : Below (w.heap.size + 1) (w.alloc (.cells #[.int .i64 0, .slice A pt.length c, v2, v3, v4] 44)) W) => (hb.block w.heap.size (by omega)).trans hkb0)
  have SN := Lib.hid (fun (W : World) => news_of (string_new (fun b => b = W.heap.size) (some ⟨W.heap.size, 0, none⟩) (grownCap W 11 0 5) nameEd (Lib.bytesWorld W 5 ⟨nameEd.toArray⟩) (by decide) (grownCap_ge _ _ _ _) (conv_RR W nameEd)))
  have K2 : ∀ w1 w2 : World, Below (w.heap.size + 1) (w.alloc (.cells #[.int .i64 0, .slice A pt.length c, v2, v3, v4] 44)) w1 → Below (Lib.bytesWorld w1 5 ⟨nameEd.toArray⟩).heap.size (Lib.bytesWorld w1 5 ⟨nameEd.toArray⟩) w2 →
      w2.cell? ⟨w.heap.size, 0, none⟩ = some (.int .i64 0) ∧ w2.cell? ⟨w.heap.size, 1, none⟩ = some (.slice A pt.length c) ∧ w2.cell? ⟨w.heap.size, 2, none⟩ = some v2 ∧ w2.cell? ⟨w.heap.size, 3, none⟩ = some v3 ∧ w2.cell? ⟨w.heap.size, 4, none⟩ = some v4 ∧ Below w.heap.size w w2 := by
    intro w1 w2 hb1 hb2
    have hcb := conv_below w1 nameEd
    have hbb : Below (w.heap.size + 1) (w.alloc (.cells #[.int .i64 0, .slice A pt.length c, v2, v3, v4] 44)) w2 := by
      have hz : w.heap.size + 1 ≤ w1.heap.size := by simpa using hb1.size
      exact (hb1.trans (hcb.mono hz)).trans (hb2.mono (Nat.le_trans hz hcb.size))
    have hk : Blk w2 w.heap.size 44 #[.int .i64 0, .slice A pt.length c, v2, v3, v4] := KX.out w2 hbb
    exact ⟨hk.cell 0, hk.cell 1, hk.cell 2, hk.cell 3, hk.cell 4, ((Below.refl _ _).alloc (Nat.le_refl _) _).trans (hbb.mono (by omega))⟩
  have K2 := Lib.hid K2
  have K1 : ∀ W : World, Below (w.heap.size + 1) (w.alloc (.cells #[.int .i64 0, .slice A pt.length c, v2, v3, v4] 44)) W →
      W.cell? ⟨w.heap.size, 0, none⟩ = some (.int .i64 0) ∧ W.cell? ⟨w.heap.size, 1, none⟩ = some (.slice A pt.length c) ∧ W.cell? ⟨w.heap.size, 2, none⟩ = some v2 ∧ W.cell? ⟨w.heap.size, 3, none⟩ = some v3 ∧ W.cell? ⟨w.heap.size, 4, none⟩ = some v4 ∧
      (Lib.bytesWorld W 5 ⟨nameEd.toArray⟩).cell? ⟨w.heap.size, 0, none⟩ = some (.int .i64 0) ∧ (Lib.bytesWorld W 5 ⟨nameEd.toArray⟩).cell? ⟨w.heap.size, 1, none⟩ = some (.slice A pt.length c) ∧ (Lib.bytesWorld W 5 ⟨nameEd.toArray⟩).cell? ⟨w.heap.size, 2, none⟩ = some v2 ∧ (Lib.bytesWorld W 5 ⟨nameEd.toArray⟩).cell? ⟨w.heap.size, 3, none⟩ = some v3 ∧ (Lib.bytesWorld W 5 ⟨nameEd.toArray⟩).cell? ⟨w.heap.size, 4, none⟩ = some v4 := by
    intro W hb1
    have hz : w.heap.size + 1 ≤ W.heap.size := by simpa using hb1.size
    have hk : Blk W w.heap.size 44 #[.int .i64 0, .slice A pt.length c, v2, v3, v4] := KX.out W hb1
    have hk2 : Blk (Lib.bytesWorld W 5 ⟨nameEd.toArray⟩) w.heap.size 44 #[.int .i64 0, .slice A pt.length c, v2, v3, v4] := KX.out _ (hb1.trans ((conv_below W nameEd).mono hz))
    exact ⟨hk.cell 0, hk.cell 1, hk.cell 2, hk.cell 3, hk.cell 4, hk2.cell 0, hk2.cell 1, hk2.cell 2, hk2.cell 3, hk2.cell 4⟩
  have K1 := Lib.hid K1
  have HFL := Lib.hid (show ([strP nameEd, strP pt]).flatten.length ≤ 70368744177664 by simp [strP, be4, nameEd]; omega)
  have HN2 := Lib.hid (show ([strP nameEd, strP pt]).length ≤ 70368744177664 by show (2 : Nat) ≤ _; omega)
  clear hkb0
  unfold edKey at KB ⊢
  have cvn : ∀ W : World, (convert 9 28 (.string ⟨nameEd.toArray⟩)).run Tryz.prog W = .ok (.slice (some ⟨W.heap.size, 0, none⟩) 11 (grownCap W 11 0 5)) (Lib.bytesWorld W 5 ⟨nameEd.toArray⟩) := fun W => Lib.run_convert_string_bytes (P := Tryz.prog) W 9 28 5 ⟨nameEd.toArray⟩ Tryz.underlying9 Tryz.underlying28 Tryz.underlying5
  go_enter Tryz.func24, Tryz.ntmps24
  go_wp2_with fail
  go_region_law (first
    | (go_simp; go_at_call 49; refine (typeName_ed _).mono ?_; rintro e w1 ⟨rfl, hb1⟩; have HB1 := Lib.hid hb1; clear hb1; obtain ⟨j0, j1, j2, j3, j4, i0, i1, i2, i3, i4⟩ := K1.out w1 (by have q := HB1.out; exact ⟨q.os, q.tape, q.output, by simpa using q.size, fun k hk => q.block k (by simpa using hk)⟩))
    | (go_simp; go_at_call 48; refine (SN.out _).mono ?_; rintro e w2 ⟨A1, c1, rfl, h1, h2, h3, h4⟩; obtain ⟨k0, k1, k2, k3, k4, hbb⟩ := K2.out _ _ (by have q := HB1.out; exact ⟨q.os, q.tape, q.output, by simpa using q.size, fun k hk => q.block k (by simpa using hk)⟩) h4; have H1 := Lib.hid h1; have H4 := Lib.hid h4; have HBB := Lib.hid hbb; clear h1 h4 hbb)
    | (go_simp; go_at_call 50; refine (KB.out _ HBB.out).mono ?_; rintro e w3 ⟨A3, c3, rfl, h5, h6, h7, h8⟩; have H5 := Lib.hid h5; have H8 := Lib.hid h8; clear h5 h8)
    | (go_simp; go_at_call 47; refine (news_of (join_new all_ (some ⟨w3.heap.size, 0, none⟩) 2 [strP nameEd, strP pt] _ HFL.out HN2.out (RR_two (Blk.new _ _ _) trivial ⟨A1, c1, rfl, h2, h3, (RR.keep (own_RR H1.out (fun _ _ => trivial)) (lit_steady _) ((Keep.of_below H8.out).alloc _))⟩ ⟨A3, c3, rfl, h6, h7, (RR.keep (own_RR H5.out (fun _ _ => trivial)) (lit_steady _) ((Keep.refl _ _).alloc _))⟩))).mono ?_; rintro e w4 ⟨A5, c5, rfl, h9, h10, h11, h12⟩; have H9 := Lib.hid h9; have H12 := Lib.hid h12; clear h9 h12))
  all_goals
    go_wp2_with fail
    go_ret
    have hfl : ([strP nameEd, strP pt]).flatten.length = (strP nameEd).length + (strP pt).length := by simp
    have he : edBytes pt = [strP nameEd, strP pt].flatten := by simp [edBytes]
    have hz2 : w.heap.size ≤ w2.heap.size := HBB.out.size
    have hz3 : w.heap.size ≤ w3.heap.size := Nat.le_trans hz2 H8.out.size
    have hb3 : Below w.heap.size w w3 := HBB.out.trans (H8.out.mono hz2)
    rw [he]
    refine ⟨A5, c5, by rw [hfl]; rfl, own_base H9.out (by simp; omega), h10, h11, ?_⟩
    exact (hb3.alloc hz3 _).trans (H12.out.mono (by simp; omega))

end Go.Proofs.YtoeepfmmceilaaaGreatDoor
