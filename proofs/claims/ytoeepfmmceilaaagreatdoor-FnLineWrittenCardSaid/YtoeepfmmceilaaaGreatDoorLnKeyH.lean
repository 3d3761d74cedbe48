/- spec.KeyBytes, spec.LineText of any kind of keys. -/
import Derived.Test.YtoeepfmmceilaaaGreatDoorLnKeyG
set_option linter.unusedVariables false
set_option linter.unusedSimpArgs false
namespace Go.Proofs.YtoeepfmmceilaaaGreatDoor
open Go.RowKit

set_option maxRecDepth 100000 in
set_option maxHeartbeats 1600000 in
theorem keyBytes_g (k : Int) (v1 v2 v3 v4 : Value) (body : List UInt8) (w : World) (hkd : k = 0 ∨ k = 1 ∨ k = 2) (h1 : v1.oneCell' = true) (h2 : v2.oneCell' = true) (h3 : v3.oneCell' = true) (h4 : v4.oneCell' = true) (hbl : body.length ≤ 10000)
    (KB0 : ∀ W : World, Below w.heap.size w W → Calls Tryz.prog 50 #[.agg #[.int .i64 k, v1, v2, v3, v4]] W (NewS W body)) :
    Calls Tryz.prog 24 #[.agg #[.int .i64 k, v1, v2, v3, v4]] w (NewS w (strP (nameK k) ++ body)) := by
  have KB := Lib.hid KB0
  have TN := Lib.hid (fun W : World => typeName_walk k hkd W)
  have hnl := nameK_len k
  obtain ⟨nm, hnm⟩ : ∃ n, n = nameK k := ⟨_, rfl⟩
  rw [← hnm] at TN hnl ⊢
  have hkb0 : Blk (w.alloc (.cells #[.int .i64 k, v1, v2, v3, v4] 44)) w.heap.size 44 #[.int .i64 k, v1, v2, v3, v4] := Blk.new _ _ _
  have KX := Lib.hid (fun (W : World) (hb : Below (w.heap.size + 1) (w.alloc (.cells #[.int .i64 k, v1, v2, v3, v4] 44)) W) => (hb.block w.heap.size (by omega)).trans hkb0)
  have SN := Lib.hid (fun (W : World) => news_of (string_new (fun b => b = W.heap.size) (some ⟨W.heap.size, 0, none⟩) (grownCap W nm.length 0 5) nm (Lib.bytesWorld W 5 ⟨nm.toArray⟩) (by omega) (grownCap_ge _ _ _ _) (conv_RR W nm)))
  have K2 : ∀ w1 w2 : World, Below (w.heap.size + 1) (w.alloc (.cells #[.int .i64 k, v1, v2, v3, v4] 44)) w1 → Below (Lib.bytesWorld w1 5 ⟨nm.toArray⟩).heap.size (Lib.bytesWorld w1 5 ⟨nm.toArray⟩) w2 →
      w2.cell? ⟨w.heap.size, 0, none⟩ = some (.int .i64 k) ∧ w2.cell? ⟨w.heap.size, 1, none⟩ = some v1 ∧ w2.cell? ⟨w.heap.size, 2, none⟩ = some v2 ∧ w2.cell? ⟨w.heap.size, 3, none⟩ = some v3 ∧ w2.cell? ⟨w.heap.size, 4, none⟩ = some v4 ∧ Below w.heap.size w w2 := by
    intro w1 w2 hb1 hb2
    have hcb := conv_below w1 nm
    have hbb : Below (w.heap.size + 1) (w.alloc (.cells #[.int .i64 k, v1, v2, v3, v4] 44)) w2 := by
      have hz : w.heap.size + 1 ≤ w1.heap.size := by simpa using hb1.size
      exact (hb1.trans (hcb.mono hz)).trans (hb2.mono (Nat.le_trans hz hcb.size))
    have hk : Blk w2 w.heap.size 44 #[.int .i64 k, v1, v2, v3, v4] := KX.out w2 hbb
    exact ⟨hk.cell 0, hk.cell 1, hk.cell 2, hk.cell 3, hk.cell 4, ((Below.refl _ _).alloc (Nat.le_refl _) _).trans (hbb.mono (by omega))⟩
  have K2 := Lib.hid K2
  have K1 : ∀ W : World, Below (w.heap.size + 1) (w.alloc (.cells #[.int .i64 k, v1, v2, v3, v4] 44)) W →
      W.cell? ⟨w.heap.size, 0, none⟩ = some (.int .i64 k) ∧ W.cell? ⟨w.heap.size, 1, none⟩ = some v1 ∧ W.cell? ⟨w.heap.size, 2, none⟩ = some v2 ∧ W.cell? ⟨w.heap.size, 3, none⟩ = some v3 ∧ W.cell? ⟨w.heap.size, 4, none⟩ = some v4 ∧
      (Lib.bytesWorld W 5 ⟨nm.toArray⟩).cell? ⟨w.heap.size, 0, none⟩ = some (.int .i64 k) ∧ (Lib.bytesWorld W 5 ⟨nm.toArray⟩).cell? ⟨w.heap.size, 1, none⟩ = some v1 ∧ (Lib.bytesWorld W 5 ⟨nm.toArray⟩).cell? ⟨w.heap.size, 2, none⟩ = some v2 ∧ (Lib.bytesWorld W 5 ⟨nm.toArray⟩).cell? ⟨w.heap.size, 3, none⟩ = some v3 ∧ (Lib.bytesWorld W 5 ⟨nm.toArray⟩).cell? ⟨w.heap.size, 4, none⟩ = some v4 := by
    intro W hb1
    have hz : w.heap.size + 1 ≤ W.heap.size := by simpa using hb1.size
    have hk : Blk W w.heap.size 44 #[.int .i64 k, v1, v2, v3, v4] := KX.out W hb1
    have hk2 : Blk (Lib.bytesWorld W 5 ⟨nm.toArray⟩) w.heap.size 44 #[.int .i64 k, v1, v2, v3, v4] := KX.out _ (hb1.trans ((conv_below W nm).mono hz))
    exact ⟨hk.cell 0, hk.cell 1, hk.cell 2, hk.cell 3, hk.cell 4, hk2.cell 0, hk2.cell 1, hk2.cell 2, hk2.cell 3, hk2.cell 4⟩
  have K1 := Lib.hid K1
  have HFL := Lib.hid (show ([strP nm, body]).flatten.length ≤ 70368744177664 by simp [strP, be4]; omega)
  have HN2 := Lib.hid (show ([strP nm, body]).length ≤ 70368744177664 by show (2 : Nat) ≤ _; omega)
  clear hkb0
  have cvn : ∀ W : World, (convert 9 28 (.string ⟨nm.toArray⟩)).run Tryz.prog W = .ok (.slice (some ⟨W.heap.size, 0, none⟩) nm.length (grownCap W nm.length 0 5)) (Lib.bytesWorld W 5 ⟨nm.toArray⟩) := fun W => by
    have hr := Lib.run_convert_string_bytes (P := Tryz.prog) W 9 28 5 ⟨nm.toArray⟩ Tryz.underlying9 Tryz.underlying28 Tryz.underlying5
    rw [show (⟨nm.toArray⟩ : ByteArray).size = nm.length by simp [ByteArray.size]] at hr
    exact hr
  clear hnl hnm hbl KB0
  go_enter Tryz.func24, Tryz.ntmps24
  go_wp2_with fail
  go_region_law (first
    | (go_simp; go_at_call 49; refine (TN.out _).mono ?_; rintro e w1 ⟨rfl, hb1⟩; have HB1 := Lib.hid hb1; clear hb1; obtain ⟨j0, j1, j2, j3, j4, i0, i1, i2, i3, i4⟩ := K1.out w1 (by have q := HB1.out; exact ⟨q.os, q.tape, q.output, by simpa using q.size, fun k hk => q.block k (by simpa using hk)⟩))
    | (go_simp; go_at_call 48; refine (SN.out _).mono ?_; rintro e w2 ⟨A1, c1, rfl, h1, h2, h3, h4⟩; obtain ⟨k0, k1, k2, k3, k4, hbb⟩ := K2.out _ _ (by have q := HB1.out; exact ⟨q.os, q.tape, q.output, by simpa using q.size, fun k hk => q.block k (by simpa using hk)⟩) h4; have H1 := Lib.hid h1; have H4 := Lib.hid h4; have HBB := Lib.hid hbb; clear h1 h4 hbb)
    | (go_simp; go_at_call 50; refine (KB.out _ HBB.out).mono ?_; rintro e w3 ⟨A3, c3, rfl, h5, h6, h7, h8⟩; have H5 := Lib.hid h5; have H8 := Lib.hid h8; clear h5 h8)
    | (go_simp; go_at_call 47; refine (news_of (join_new all_ (some ⟨w3.heap.size, 0, none⟩) 2 [strP nm, body] _ HFL.out HN2.out (RR_two (Blk.new _ _ _) trivial ⟨A1, c1, rfl, h2, h3, (RR.keep (own_RR H1.out (fun _ _ => trivial)) (lit_steady _) ((Keep.of_below H8.out).alloc _))⟩ ⟨A3, c3, rfl, h6, h7, (RR.keep (own_RR H5.out (fun _ _ => trivial)) (lit_steady _) ((Keep.refl _ _).alloc _))⟩))).mono ?_; rintro e w4 ⟨A5, c5, rfl, h9, h10, h11, h12⟩; have H9 := Lib.hid h9; have H12 := Lib.hid h12; clear h9 h12))
  all_goals
    go_wp2_with fail
    go_ret
    have hfl : ([strP nm, body]).flatten.length = (strP nm).length + (body).length := by simp
    have he : strP nm ++ body = [strP nm, body].flatten := by simp
    have hz2 : w.heap.size ≤ w2.heap.size := HBB.out.size
    have hz3 : w.heap.size ≤ w3.heap.size := Nat.le_trans hz2 H8.out.size
    have hb3 : Below w.heap.size w w3 := HBB.out.trans (H8.out.mono hz2)
    rw [he]
    refine ⟨A5, c5, by rw [hfl]; rfl, own_base H9.out (by simp; omega), h10, h11, ?_⟩
    exact (hb3.alloc hz3 _).trans (H12.out.mono (by simp; omega))


set_option maxRecDepth 100000 in
set_option maxHeartbeats 1600000 in
theorem lineText_g (k : Int) (v1 v2 v3 v4 : Value) (kb : List UInt8) (w : World) (hkd : k = 0 ∨ k = 1 ∨ k = 2) (h1 : v1.oneCell' = true) (h2 : v2.oneCell' = true) (h3 : v3.oneCell' = true) (h4 : v4.oneCell' = true) (hbl0 : kb.length ≤ 10000)
    (KB0 : ∀ W : World, Below w.heap.size w W → Calls Tryz.prog 24 #[.agg #[.int .i64 k, v1, v2, v3, v4]] W (NewS W kb)) :
    Calls Tryz.prog 25 #[.agg #[.int .i64 k, v1, v2, v3, v4]] w fun e w' => e = .returned (.string ⟨(nameK k ++ [32] ++ b64P kb).toArray⟩) ∧ Below w.heap.size w w' := by
  have KB := Lib.hid KB0
  have TN := Lib.hid (fun W : World => typeName_walk k hkd W)
  have hnl := nameK_len k
  obtain ⟨nm, hnm⟩ : ∃ n, n = nameK k := ⟨_, rfl⟩
  rw [← hnm] at TN hnl ⊢
  obtain ⟨Bs, hBs⟩ : ∃ B, B = b64P (kb) := ⟨_, rfl⟩
  have hbl : Bs.length ≤ 2000000 := by rw [hBs, b64P_len]; omega
  have HB6 := Lib.hid (fun (W : World) (A : Option Addr) (c : Nat) (h : RR (lit byteV) all_ W A (kb)) => base64_walk all_ A c (kb) W (by omega) h)
  rw [← hBs] at HB6 ⊢
  have hkb0 : Blk (w.alloc (.cells #[.int .i64 k, v1, v2, v3, v4] 44)) w.heap.size 44 #[.int .i64 k, v1, v2, v3, v4] := Blk.new _ _ _
  have K1 : ∀ W : World, Below (w.heap.size + 1) (w.alloc (.cells #[.int .i64 k, v1, v2, v3, v4] 44)) W →
      W.cell? ⟨w.heap.size, 0, none⟩ = some (.int .i64 k) ∧ W.cell? ⟨w.heap.size, 1, none⟩ = some v1 ∧ W.cell? ⟨w.heap.size, 2, none⟩ = some v2 ∧ W.cell? ⟨w.heap.size, 3, none⟩ = some v3 ∧ W.cell? ⟨w.heap.size, 4, none⟩ = some v4 ∧ Below w.heap.size w W := by
    intro W hb1
    have hk : Blk W w.heap.size 44 #[.int .i64 k, v1, v2, v3, v4] := (hb1.block w.heap.size (by omega)).trans hkb0
    exact ⟨hk.cell 0, hk.cell 1, hk.cell 2, hk.cell 3, hk.cell 4, ((Below.refl _ _).alloc (Nat.le_refl _) _).trans (hb1.mono (by omega))⟩
  have K1 := Lib.hid K1
  have HBS := Lib.hid hBs
  clear hkb0 hBs hnm hbl0 KB0
  have hk1 : (9223372036854775807 < nm.length + 1) = False := eq_false (by omega)
  have hk2 : (9223372036854775807 < nm.length + 1 + Bs.length) = False := eq_false (by omega)
  go_enter Tryz.func25, Tryz.ntmps25
  go_wp2_with fail
  go_region_law (first
    | (go_simp; go_at_call 49; refine (TN.out _).mono ?_; rintro e w1 ⟨rfl, hb1⟩; obtain ⟨j0, j1, j2, j3, j4, hbb⟩ := K1.out w1 (by have q := hb1; exact ⟨q.os, q.tape, q.output, by simpa using q.size, fun k hk => q.block k (by simpa using hk)⟩); have HBB := Lib.hid hbb; clear hb1 hbb)
    | (go_simp; go_at_call 24; refine (KB.out _ HBB.out).mono ?_; rintro e w3 ⟨A3, c3, rfl, h5, h6, h7, h8⟩; have H5 := Lib.hid h5; have H8 := Lib.hid h8; clear h5 h8)
    | (go_simp; go_at_call 28; refine (HB6.out _ A3 c3 (own_RR H5.out (fun _ _ => trivial))).mono ?_; rintro e w4 ⟨rfl, hw4⟩; (have hw4 := hw4.symm); subst hw4; simp only [strV]))
  all_goals
    go_wp2_with fail
    go_ret
    refine ⟨?_, HBB.out.trans (H8.out.mono HBB.out.size)⟩
    have h1 : (⟨nm.toArray⟩ : ByteArray) ++ ⟨#[32]⟩ ++ ⟨Bs.toArray⟩ = ⟨(nm ++ [32] ++ Bs).toArray⟩ := by rw [str_one, str_app]
    exact congrArg (fun s => Ending.returned (Value.string s)) (h1.trans (by simp))


end Go.Proofs.YtoeepfmmceilaaaGreatDoor
