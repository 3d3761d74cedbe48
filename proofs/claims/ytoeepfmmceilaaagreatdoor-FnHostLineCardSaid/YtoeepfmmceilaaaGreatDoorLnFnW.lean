/- spec.KeyBytes, spec.LineText of any kind of keys. -/
import Derived.Test.YtoeepfmmceilaaaGreatDoorLnKeyG
import Derived.Test.YtoeepfmmceilaaaGreatDoorLnKeyP
import Derived.Test.YtoeepfmmceilaaaGreatDoorLnWrL
import Derived.Test.YtoeepfmmceilaaaGreatDoorLnLines
set_option linter.unusedVariables false
set_option linter.unusedSimpArgs false
namespace Go.Proofs.YtoeepfmmceilaaaGreatDoor
open Go.RowKit

set_option maxRecDepth 100000 in
set_option maxHeartbeats 1600000 in
theorem keyBytes_g (k : Int) (v1 v2 v3 v4 : Value) (body : List UInt8) (w : World) (hkd : k = 0 ∨ k = 1 ∨ k = 2) (h1 : v1.oneCell' = true) (h2 : v2.oneCell' = true) (h3 : v3.oneCell' = true) (h4 : v4.oneCell' = true) (hbl : body.length ≤ 10000)
    (KB0 : ∀ W : World, Below w.heap.size w W → Calls Tryz.prog 50 #[.agg #[.int .i64 k, v1, v2, v3, v4]] W (NewS W body)) :
    Calls Tryz.prog 24 #[.agg #[.int .i64 k, v1, v2, v3, v4]] w (NewS w (strP (nameK k) ++ body)) := by
  have KB := Lib.hid KB0
  have TN := Lib.hid (fun W : World => typeName_walk k hkd W)
  have hnl := nameK_len k
  obtain ⟨nm, hnm⟩ : ∃ n, n = nameK k := ⟨_, rfl⟩
  rw [← hnm] at TN hnl ⊢
  have hkb0 : Blk (w.alloc (.cells #[.int .i64 k, v1, v2, v3, v4] 44)) w.heap.size 44 #[.int .i64 k, v1, v2, v3, v4] := Blk.new _ _ _
  have KX := Lib.hid (fun (W : World) (hb : Below (w.heap.size + 1) (w.alloc (.cells #[.int .i64 k, v1, v2, v3, v4] 44)) W) => (hb.block w.heap.size (by omega)).trans hkb0)
  have SN := Lib.hid (fun (W : World) => news_of (string_new (fun b => b = W.heap.size) (some ⟨W.heap.size, 0, none⟩) (grownCap W nm.length 0 5) nm (Lib.bytesWorld W 5 ⟨nm.toArray⟩) (by omega) (grownCap_ge _ _ _ _) (conv_RR W nm)))
  have K2 : ∀ w1 w2 : World, Below (w.heap.size + 1) (w.alloc (.cells #[.int .i64 k, v1, v2, v3, v4] 44)) w1 → Below (Lib.bytesWorld w1 5 ⟨nm.toArray⟩).heap.size (Lib.bytesWorld w1 5 ⟨nm.toArray⟩) w2 →
      w2.cell? ⟨w.heap.size, 0, none⟩ = some (.int .i64 k) ∧ w2.cell? ⟨w.heap.size, 1, none⟩ = some v1 ∧ w2.cell? ⟨w.heap.size, 2, none⟩ = some v2 ∧ w2.cell? ⟨w.heap.size, 3, none⟩ = some v3 ∧ w2.cell? ⟨w.heap.size, 4, none⟩ = some v4 ∧ Below w.heap.size w w2 := by
    intro w1 w2 hb1 hb2
    have hcb := conv_below w1 nm
    have hbb : Below (w.heap.size + 1) (w.alloc (.cells #[.int .i64 k, v1, v2, v3, v4] 44)) w2 := by
      have hz : w.heap.size + 1 ≤ w1.heap.size := by simpa using hb1.size
      exact (hb1.trans (hcb.mono hz)).trans (hb2.mono (Nat.le_trans hz hcb.size))
    have hk : Blk w2 w.heap.size 44 #[.int .i64 k, v1, v2, v3, v4] := KX.out w2 hbb
    exact ⟨hk.cell 0, hk.cell 1, hk.cell 2, hk.cell 3, hk.cell 4, ((Below.refl _ _).alloc (Nat.le_refl _) _).trans (hbb.mono (by omega))⟩
  have K2 := Lib.hid K2
  have K1 : ∀ W : World, Below (w.heap.size + 1) (w.alloc (.cells #[.int .i64 k, v1, v2, v3, v4] 44)) W →
      W.cell? ⟨w.heap.size, 0, none⟩ = some (.int .i64 k) ∧ W.cell? ⟨w.heap.size, 1, none⟩ = some v1 ∧ W.cell? ⟨w.heap.size, 2, none⟩ = some v2 ∧ W.cell? ⟨w.heap.size, 3, none⟩ = some v3 ∧ W.cell? ⟨w.heap.size, 4, none⟩ = some v4 ∧
      (Lib.bytesWorld W 5 ⟨nm.toArray⟩).cell? ⟨w.heap.size, 0, none⟩ = some (.int .i64 k) ∧ (Lib.bytesWorld W 5 ⟨nm.toArray⟩).cell? ⟨w.heap.size, 1, none⟩ = some v1 ∧ (Lib.bytesWorld W 5 ⟨nm.toArray⟩).cell? ⟨w.heap.size, 2, none⟩ = some v2 ∧ (Lib.bytesWorld W 5 ⟨nm.toArray⟩).cell? ⟨w.heap.size, 3, none⟩ = some v3 ∧ (Lib.bytesWorld W 5 ⟨nm.toArray⟩).cell? ⟨w.heap.size, 4, none⟩ = some v4 := by
    intro W hb1
    have hz : w.heap.size + 1 ≤ W.heap.size := by simpa using hb1.size
    have hk : Blk W w.heap.size 44 #[.int .i64 k, v1, v2, v3, v4] := KX.out W hb1
    have hk2 : Blk (Lib.bytesWorld W 5 ⟨nm.toArray⟩) w.heap.size 44 #[.int .i64 k, v1, v2, v3, v4] := KX.out _ (hb1.trans ((conv_below W nm).mono hz))
    exact ⟨hk.cell 0, hk.cell 1, hk.cell 2, hk.cell 3, hk.cell 4, hk2.cell 0, hk2.cell 1, hk2.cell 2, hk2.cell 3, hk2.cell 4⟩
  have K1 := Lib.hid K1
  have HFL := Lib.hid (show ([strP nm, body]).flatten.length ≤ 70368744177664 by simp [strP, be4]; omega)
  have HN2 := Lib.hid (show ([strP nm, body]).length ≤ 70368744177664 by show (2 : Nat) ≤ _; omega)
  clear hkb0
  have cvn : ∀ W : World, (convert 9 28 (.string ⟨nm.toArray⟩)).run Tryz.prog W = .ok (.slice (some ⟨W.heap.size, 0, none⟩) nm.length (grownCap W nm.length 0 5)) (Lib.bytesWorld W 5 ⟨nm.toArray⟩) := fun W => by
    have hr := Lib.run_convert_string_bytes (P := Tryz.prog) W 9 28 5 ⟨nm.toArray⟩ Tryz.underlying9 Tryz.underlying28 Tryz.underlying5
    rw [show (⟨nm.toArray⟩ : ByteArray).size = nm.length by simp [ByteArray.size]] at hr
    exact hr
  clear hnl hnm hbl KB0
  go_enter Tryz.func24, Tryz.ntmps24
  go_wp2_with fail
  go_region_law (first
    | (go_simp; go_at_call 49; refine (TN.out _).mono ?_; rintro e w1 ⟨rfl, hb1⟩; have HB1 := Lib.hid hb1; clear hb1; obtain ⟨j0, j1, j2, j3, j4, i0, i1, i2, i3, i4⟩ := K1.out w1 (by have q := HB1.out; exact ⟨q.os, q.tape, q.output, by simpa using q.size, fun k hk => q.block k (by simpa using hk)⟩))
    | (go_simp; go_at_call 48; refine (SN.out _).mono ?_; rintro e w2 ⟨A1, c1, rfl, h1, h2, h3, h4⟩; obtain ⟨k0, k1, k2, k3, k4, hbb⟩ := K2.out _ _ (by have q := HB1.out; exact ⟨q.os, q.tape, q.output, by simpa using q.size, fun k hk => q.block k (by simpa using hk)⟩) h4; have H1 := Lib.hid h1; have H4 := Lib.hid h4; have HBB := Lib.hid hbb; clear h1 h4 hbb)
    | (go_simp; go_at_call 50; refine (KB.out _ HBB.out).mono ?_; rintro e w3 ⟨A3, c3, rfl, h5, h6, h7, h8⟩; have H5 := Lib.hid h5; have H8 := Lib.hid h8; clear h5 h8)
    | (go_simp; go_at_call 47; refine (news_of (join_new all_ (some ⟨w3.heap.size, 0, none⟩) 2 [strP nm, body] _ HFL.out HN2.out (RR_two (Blk.new _ _ _) trivial ⟨A1, c1, rfl, h2, h3, (RR.keep (own_RR H1.out (fun _ _ => trivial)) (lit_steady _) ((Keep.of_below H8.out).alloc _))⟩ ⟨A3, c3, rfl, h6, h7, (RR.keep (own_RR H5.out (fun _ _ => trivial)) (lit_steady _) ((Keep.refl _ _).alloc _))⟩))).mono ?_; rintro e w4 ⟨A5, c5, rfl, h9, h10, h11, h12⟩; have H9 := Lib.hid h9; have H12 := Lib.hid h12; clear h9 h12))
  all_goals
    go_wp2_with fail
    go_ret
    have hfl : ([strP nm, body]).flatten.length = (strP nm).length + (body).length := by simp
    have he : strP nm ++ body = [strP nm, body].flatten := by simp
    have hz2 : w.heap.size ≤ w2.heap.size := HBB.out.size
    have hz3 : w.heap.size ≤ w3.heap.size := Nat.le_trans hz2 H8.out.size
    have hb3 : Below w.heap.size w w3 := HBB.out.trans (H8.out.mono hz2)
    rw [he]
    refine ⟨A5, c5, by rw [hfl]; rfl, own_base H9.out (by simp; omega), h10, h11, ?_⟩
    exact (hb3.alloc hz3 _).trans (H12.out.mono (by simp; omega))


set_option maxRecDepth 100000 in
set_option maxHeartbeats 1600000 in
theorem lineText_g (k : Int) (v1 v2 v3 v4 : Value) (kb : List UInt8) (w : World) (hkd : k = 0 ∨ k = 1 ∨ k = 2) (h1 : v1.oneCell' = true) (h2 : v2.oneCell' = true) (h3 : v3.oneCell' = true) (h4 : v4.oneCell' = true) (hbl0 : kb.length ≤ 10000)
    (KB0 : ∀ W : World, Below w.heap.size w W → Calls Tryz.prog 24 #[.agg #[.int .i64 k, v1, v2, v3, v4]] W (NewS W kb)) :
    Calls Tryz.prog 25 #[.agg #[.int .i64 k, v1, v2, v3, v4]] w fun e w' => e = .returned (.string ⟨(nameK k ++ [32] ++ b64P kb).toArray⟩) ∧ Below w.heap.size w w' := by
  have KB := Lib.hid KB0
  have TN := Lib.hid (fun W : World => typeName_walk k hkd W)
  have hnl := nameK_len k
  obtain ⟨nm, hnm⟩ : ∃ n, n = nameK k := ⟨_, rfl⟩
  rw [← hnm] at TN hnl ⊢
  obtain ⟨Bs, hBs⟩ : ∃ B, B = b64P (kb) := ⟨_, rfl⟩
  have hbl : Bs.length ≤ 2000000 := by rw [hBs, b64P_len]; omega
  have HB6 := Lib.hid (fun (W : World) (A : Option Addr) (c : Nat) (h : RR (lit byteV) all_ W A (kb)) => base64_walk all_ A c (kb) W (by omega) h)
  rw [← hBs] at HB6 ⊢
  have hkb0 : Blk (w.alloc (.cells #[.int .i64 k, v1, v2, v3, v4] 44)) w.heap.size 44 #[.int .i64 k, v1, v2, v3, v4] := Blk.new _ _ _
  have K1 : ∀ W : World, Below (w.heap.size + 1) (w.alloc (.cells #[.int .i64 k, v1, v2, v3, v4] 44)) W →
      W.cell? ⟨w.heap.size, 0, none⟩ = some (.int .i64 k) ∧ W.cell? ⟨w.heap.size, 1, none⟩ = some v1 ∧ W.cell? ⟨w.heap.size, 2, none⟩ = some v2 ∧ W.cell? ⟨w.heap.size, 3, none⟩ = some v3 ∧ W.cell? ⟨w.heap.size, 4, none⟩ = some v4 ∧ Below w.heap.size w W := by
    intro W hb1
    have hk : Blk W w.heap.size 44 #[.int .i64 k, v1, v2, v3, v4] := (hb1.block w.heap.size (by omega)).trans hkb0
    exact ⟨hk.cell 0, hk.cell 1, hk.cell 2, hk.cell 3, hk.cell 4, ((Below.refl _ _).alloc (Nat.le_refl _) _).trans (hb1.mono (by omega))⟩
  have K1 := Lib.hid K1
  have HBS := Lib.hid hBs
  clear hkb0 hBs hnm hbl0 KB0
  have hk1 : (9223372036854775807 < nm.length + 1) = False := eq_false (by omega)
  have hk2 : (9223372036854775807 < nm.length + 1 + Bs.length) = False := eq_false (by omega)
  go_enter Tryz.func25, Tryz.ntmps25
  go_wp2_with fail
  go_region_law (first
    | (go_simp; go_at_call 49; refine (TN.out _).mono ?_; rintro e w1 ⟨rfl, hb1⟩; obtain ⟨j0, j1, j2, j3, j4, hbb⟩ := K1.out w1 (by have q := hb1; exact ⟨q.os, q.tape, q.output, by simpa using q.size, fun k hk => q.block k (by simpa using hk)⟩); have HBB := Lib.hid hbb; clear hb1 hbb)
    | (go_simp; go_at_call 24; refine (KB.out _ HBB.out).mono ?_; rintro e w3 ⟨A3, c3, rfl, h5, h6, h7, h8⟩; have H5 := Lib.hid h5; have H8 := Lib.hid h8; clear h5 h8)
    | (go_simp; go_at_call 28; refine (HB6.out _ A3 c3 (own_RR H5.out (fun _ _ => trivial))).mono ?_; rintro e w4 ⟨rfl, hw4⟩; (have hw4 := hw4.symm); subst hw4; simp only [strV]))
  all_goals
    go_wp2_with fail
    go_ret
    refine ⟨?_, HBB.out.trans (H8.out.mono HBB.out.size)⟩
    have h1 : (⟨nm.toArray⟩ : ByteArray) ++ ⟨#[32]⟩ ++ ⟨Bs.toArray⟩ = ⟨(nm ++ [32] ++ Bs).toArray⟩ := by rw [str_one, str_app]
    exact congrArg (fun s => Ending.returned (Value.string s)) (h1.trans (by simp))


end Go.Proofs.YtoeepfmmceilaaaGreatDoor
/- laws.keyFits of an RSA key. Printed by gen_fit.py. -/
set_option linter.unusedVariables false
set_option linter.unusedSimpArgs false
namespace Go.Proofs.YtoeepfmmceilaaaGreatDoor
open Go.RowKit

theorem and_1_of (x : Nat) (h : x < 256) : bits .and .u8 (x : Int) 1 = ((x % 2 : Nat) : Int) := by
  have : ∀ d : Fin 256, bits .and .u8 (d.val : Int) 1 = ((d.val % 2 : Nat) : Int) := by decide +kernel
  exact this ⟨x, h⟩
theorem fit_no {w : World} {K : KeyP} {w' : World} (h : Below w.heap.size w w') : FitEnd w K (.returned (.bool false)) w' := ⟨⟨false, rfl, fun h => absurd h (by decide)⟩, h⟩
set_option maxRecDepth 100000 in
set_option maxHeartbeats 3200000 in
theorem keyFits_rsa (ok : Nat → Prop) (v : Value) (K : KeyP) (w : World) (h0 : K.kind = 1) (hk : KeyAt ok w v K) : Calls Tryz.prog 22 #[v] w (FitEnd w K) := by
  obtain ⟨A0, c0, A1, c1, A2, c2, rfl, h1, h2, h3, h4⟩ := hk
  have z := size_list K.app
  have HK0 := Lib.hid h0
  rw [h0]
  have H3 := Lib.hid h3.out
  have H4 := Lib.hid h4.out
  clear h1 h2 h3 h4 h0
  have hal : ∀ o (p : Addr) (u : Value), w.cell? p = some u → (w.alloc o).cell? p = some u := fun o p u h => (((Below.refl w.heap.size w).alloc (Nat.le_refl _) o).cell (blk_lt_of_cell h)).trans h
  have HAL := Lib.hid hal
  clear hal
  by_cases hX : K.pt = []
  rotate_left
  · have e1 : ((K.pt.length : Int) == 0) = false := by
      rw [beq_eq_false_iff_ne]
      intro h
      exact hX (List.eq_nil_of_length_eq_zero (by omega))
    clear hX
    go_enter Tryz.func22, Tryz.ntmps22
    go_upto_region 3 with fail
    simp only [List.append_eq, List.cons_append, List.nil_append, List.append]
    go_wp2_with fail
    all_goals
      go_ret
      exact fit_no ((Below.refl _ _).alloc (Nat.le_refl _) _)
  have HPT := Lib.hid hX
  have e1 : ((K.pt.length : Int) == 0) = true := by rw [hX]; rfl
  clear hX
  by_cases hX : K.app = []
  rotate_left
  · have e2 : (K.app == []) = false := by rw [beq_eq_false_iff_ne]; exact hX
    go_enter Tryz.func22, Tryz.ntmps22
    go_upto_region 3 with fail
    simp only [List.append_eq, List.cons_append, List.nil_append, List.append]
    go_wp2_with fail
    all_goals
      go_ret
      exact fit_no ((Below.refl _ _).alloc (Nat.le_refl _) _)
  have HAP := Lib.hid hX
  rw [hX]
  clear hX z
  by_cases hX : K.e.length ≤ 3
  rotate_left
  · have e4 : ((K.e.length : Int) ≤ 3) = False := eq_false (by omega)
    clear hX
    go_enter Tryz.func22, Tryz.ntmps22
    go_upto_region 3 with fail
    simp only [List.append_eq, List.cons_append, List.nil_append, List.append]
    go_wp2_with fail
    all_goals
      go_ret
      exact fit_no ((Below.refl _ _).alloc (Nat.le_refl _) _)
  have HG2 := Lib.hid hX
  have e4 : ((K.e.length : Int) ≤ 3) = True := eq_true (by omega)
  clear hX
  by_cases hX : 0 < K.e.length
  rotate_left
  · have e3 : (0 < K.e.length) = False := eq_false hX
    clear hX
    go_enter Tryz.func22, Tryz.ntmps22
    go_upto_region 3 with fail
    simp only [List.append_eq, List.cons_append, List.nil_append, List.append]
    go_wp2_with fail
    all_goals
      go_ret
      exact fit_no ((Below.refl _ _).alloc (Nat.le_refl _) _)
  have HG1 := Lib.hid hX
  obtain ⟨ad, rfl, _, hc⟩ := RB.at H3.out hX
  obtain ⟨x, hx⟩ : ∃ x, K.e[0]? = some x := ⟨_, List.getElem?_eq_getElem hX⟩
  obtain ⟨l, hl⟩ : ∃ l, K.e[K.e.length - 1]? = some l := ⟨_, List.getElem?_eq_getElem (by omega)⟩
  obtain ⟨m1, hm1⟩ : ∃ m, m = K.e.length - 1 := ⟨_, rfl⟩
  have hs1 : (K.e.length : Int) - 1 = (m1 : Int) := by omega
  have hm1l : m1 < K.e.length := by omega
  have hw1 : wrap64 (m1 : Int) = (m1 : Int) := by have h9 := HG2.out; unfold wrap64; omega
  have HX := Lib.hid (And.intro hx hl)
  rw [← hm1] at hl
  have k0 : ∀ o, (w.alloc o).cell? ad = some (.int .u8 (x.toNat : Int)) := fun o => HAL.out o _ _ (hc 0 x hx)
  have k1 : ∀ o, (w.alloc o).cell? (ad.add m1) = some (.int .u8 (l.toNat : Int)) := fun o => HAL.out o _ _ (hc _ l hl)
  have e3 : (0 < K.e.length) = True := eq_true hX
  clear hX hc hx hl hm1
  by_cases hX : x ≠ 0
  rotate_left
  · have e5 : ((x.toNat : Int) != 0) = false := by
      have : x = 0 := Classical.byContradiction hX
      rw [this]
      rfl
    clear hX
    go_enter Tryz.func22, Tryz.ntmps22
    go_upto_region 3 with fail
    simp only [List.append_eq, List.cons_append, List.nil_append, List.append]
    go_wp2_with fail
    all_goals
      go_ret
      exact fit_no ((Below.refl _ _).alloc (Nat.le_refl _) _)
  have HX0 := Lib.hid hX
  have e5 : ((x.toNat : Int) != 0) = true := by
    rw [bne_iff_ne]
    intro h
    exact hX (UInt8.toNat_inj.1 (by show x.toNat = 0; omega))
  clear hX
  by_cases hX : l.toNat % 2 = 1
  rotate_left
  · have e6 : bits .and .u8 (l.toNat : Int) 1 = 0 := by rw [and_1_of _ l.toNat_lt, show l.toNat % 2 = 0 by omega]; rfl
    clear hX
    go_enter Tryz.func22, Tryz.ntmps22
    go_upto_region 3 with fail
    simp only [List.append_eq, List.cons_append, List.nil_append, List.append]
    go_wp2_with fail
    all_goals
      go_ret
      exact fit_no ((Below.refl _ _).alloc (Nat.le_refl _) _)
  have HX1 := Lib.hid hX
  have e6 : bits .and .u8 (l.toNat : Int) 1 = 1 := by rw [and_1_of _ l.toNat_lt, hX]; rfl
  clear hX
  by_cases hY : 1 < K.e.length
  rotate_left
  · have e71 : ((1 : Int) < (K.e.length : Int)) = False := eq_false (by omega)
    have e72 : (1 < K.e.length) = False := eq_false hY
    by_cases hX : 2 < x.toNat
    rotate_left
    · have e73 : ((2 : Int) < (x.toNat : Int)) = False := eq_false (by omega)
      clear hX hY
      go_enter Tryz.func22, Tryz.ntmps22
      go_upto_region 3 with fail
      simp only [List.append_eq, List.cons_append, List.nil_append, List.append]
      go_wp2_with fail
      all_goals
        go_ret
        exact fit_no ((Below.refl _ _).alloc (Nat.le_refl _) _)
    have HOR := Lib.hid (show 1 < K.e.length ∨ 2 < x.toNat from Or.inr hX)
    have e73 : ((2 : Int) < (x.toNat : Int)) = True := eq_true (by omega)
    clear hX hY
    by_cases hX : K.n.length ≤ 512
    rotate_left
    · have e9 : ((K.n.length : Int) ≤ 512) = False := eq_false (by omega)
      clear hX
      go_enter Tryz.func22, Tryz.ntmps22
      go_upto_region 3 with fail
      simp only [List.append_eq, List.cons_append, List.nil_append, List.append]
      go_wp2_with fail
      all_goals
        go_ret
        exact fit_no ((Below.refl _ _).alloc (Nat.le_refl _) _)
    have HG4 := Lib.hid hX
    have e9 : ((K.n.length : Int) ≤ 512) = True := eq_true (by omega)
    clear hX
    by_cases hX : 128 ≤ K.n.length
    rotate_left
    · have e8 : ((128 : Int) ≤ (K.n.length : Int)) = False := eq_false (by omega)
      clear hX
      go_enter Tryz.func22, Tryz.ntmps22
      go_upto_region 3 with fail
      simp only [List.append_eq, List.cons_append, List.nil_append, List.append]
      go_wp2_with fail
      all_goals
        go_ret
        exact fit_no ((Below.refl _ _).alloc (Nat.le_refl _) _)
    have HG3 := Lib.hid hX
    obtain ⟨bd, rfl, _, hd⟩ := RB.at H4.out (by omega)
    obtain ⟨y, hy⟩ : ∃ y, K.n[0]? = some y := ⟨_, List.getElem?_eq_getElem (by omega)⟩
    obtain ⟨q, hq⟩ : ∃ q, K.n[K.n.length - 1]? = some q := ⟨_, List.getElem?_eq_getElem (by omega)⟩
    obtain ⟨m2, hm2⟩ : ∃ m, m = K.n.length - 1 := ⟨_, rfl⟩
    have hs2 : (K.n.length : Int) - 1 = (m2 : Int) := by omega
    have hm2l : m2 < K.n.length := by omega
    have hw2 : wrap64 (m2 : Int) = (m2 : Int) := by have h9 := HG4.out; unfold wrap64; omega
    have hn0 : 0 < K.n.length := by omega
    have HY := Lib.hid hy
    rw [← hm2] at hq
    have k2 : ∀ o, (w.alloc o).cell? bd = some (.int .u8 (y.toNat : Int)) := fun o => HAL.out o _ _ (hd 0 y hy)
    have k3 : ∀ o, (w.alloc o).cell? (bd.add m2) = some (.int .u8 (q.toNat : Int)) := fun o => HAL.out o _ _ (hd _ q hq)
    have e8 : ((128 : Int) ≤ (K.n.length : Int)) = True := eq_true (by omega)
    clear hX hd hy hq hm2
    by_cases hX : 127 < y.toNat
    rotate_left
    · have e10 : ((127 : Int) < (y.toNat : Int)) = False := eq_false (by omega)
      clear hX
      go_enter Tryz.func22, Tryz.ntmps22
      go_upto_region 3 with fail
      simp only [List.append_eq, List.cons_append, List.nil_append, List.append]
      go_wp2_with fail
      all_goals
        go_ret
        exact fit_no ((Below.refl _ _).alloc (Nat.le_refl _) _)
    have HY1 := Lib.hid hX
    have e10 : ((127 : Int) < (y.toNat : Int)) = True := eq_true (by omega)
    clear hX
    by_cases hX : q.toNat % 2 = 1
    rotate_left
    · have e11 : bits .and .u8 (q.toNat : Int) 1 = 0 := by rw [and_1_of _ q.toNat_lt, show q.toNat % 2 = 0 by omega]; rfl
      clear hX
      go_enter Tryz.func22, Tryz.ntmps22
      go_upto_region 3 with fail
      simp only [List.append_eq, List.cons_append, List.nil_append, List.append]
      go_wp2_with fail
      all_goals
        go_ret
        exact fit_no ((Below.refl _ _).alloc (Nat.le_refl _) _)
    have e11 : bits .and .u8 (q.toNat : Int) 1 = 1 := by rw [and_1_of _ q.toNat_lt, hX]; rfl
    clear hX
    go_enter Tryz.func22, Tryz.ntmps22
    go_upto_region 3 with fail
    simp only [List.append_eq, List.cons_append, List.nil_append, List.append]
    go_wp2_with fail
    go_ret
    exact ⟨⟨true, rfl, fun _ => Or.inr (Or.inl ⟨HK0.out, HPT.out, HAP.out, ⟨x, l, HX.out.1, HX.out.2, HX0.out, HX1.out, HOR.out⟩, HG2.out, HG3.out, HG4.out, ⟨y, HY.out, HY1.out⟩⟩)⟩, (Below.refl _ _).alloc (Nat.le_refl _) _⟩
  have HOR := Lib.hid (show 1 < K.e.length ∨ 2 < x.toNat from Or.inl hY)
  have e71 : ((1 : Int) < (K.e.length : Int)) = True := eq_true (by omega)
  have e72 : (1 < K.e.length) = True := eq_true hY
  clear hY
  by_cases hX : K.n.length ≤ 512
  rotate_left
  · have e9 : ((K.n.length : Int) ≤ 512) = False := eq_false (by omega)
    clear hX
    go_enter Tryz.func22, Tryz.ntmps22
    go_upto_region 3 with fail
    simp only [List.append_eq, List.cons_append, List.nil_append, List.append]
    go_wp2_with fail
    all_goals
      go_ret
      exact fit_no ((Below.refl _ _).alloc (Nat.le_refl _) _)
  have HG4 := Lib.hid hX
  have e9 : ((K.n.length : Int) ≤ 512) = True := eq_true (by omega)
  clear hX
  by_cases hX : 128 ≤ K.n.length
  rotate_left
  · have e8 : ((128 : Int) ≤ (K.n.length : Int)) = False := eq_false (by omega)
    clear hX
    go_enter Tryz.func22, Tryz.ntmps22
    go_upto_region 3 with fail
    simp only [List.append_eq, List.cons_append, List.nil_append, List.append]
    go_wp2_with fail
    all_goals
      go_ret
      exact fit_no ((Below.refl _ _).alloc (Nat.le_refl _) _)
  have HG3 := Lib.hid hX
  obtain ⟨bd, rfl, _, hd⟩ := RB.at H4.out (by omega)
  obtain ⟨y, hy⟩ : ∃ y, K.n[0]? = some y := ⟨_, List.getElem?_eq_getElem (by omega)⟩
  obtain ⟨q, hq⟩ : ∃ q, K.n[K.n.length - 1]? = some q := ⟨_, List.getElem?_eq_getElem (by omega)⟩
  obtain ⟨m2, hm2⟩ : ∃ m, m = K.n.length - 1 := ⟨_, rfl⟩
  have hs2 : (K.n.length : Int) - 1 = (m2 : Int) := by omega
  have hm2l : m2 < K.n.length := by omega
  have hw2 : wrap64 (m2 : Int) = (m2 : Int) := by have h9 := HG4.out; unfold wrap64; omega
  have hn0 : 0 < K.n.length := by omega
  have HY := Lib.hid hy
  rw [← hm2] at hq
  have k2 : ∀ o, (w.alloc o).cell? bd = some (.int .u8 (y.toNat : Int)) := fun o => HAL.out o _ _ (hd 0 y hy)
  have k3 : ∀ o, (w.alloc o).cell? (bd.add m2) = some (.int .u8 (q.toNat : Int)) := fun o => HAL.out o _ _ (hd _ q hq)
  have e8 : ((128 : Int) ≤ (K.n.length : Int)) = True := eq_true (by omega)
  clear hX hd hy hq hm2
  by_cases hX : 127 < y.toNat
  rotate_left
  · have e10 : ((127 : Int) < (y.toNat : Int)) = False := eq_false (by omega)
    clear hX
    go_enter Tryz.func22, Tryz.ntmps22
    go_upto_region 3 with fail
    simp only [List.append_eq, List.cons_append, List.nil_append, List.append]
    go_wp2_with fail
    all_goals
      go_ret
      exact fit_no ((Below.refl _ _).alloc (Nat.le_refl _) _)
  have HY1 := Lib.hid hX
  have e10 : ((127 : Int) < (y.toNat : Int)) = True := eq_true (by omega)
  clear hX
  by_cases hX : q.toNat % 2 = 1
  rotate_left
  · have e11 : bits .and .u8 (q.toNat : Int) 1 = 0 := by rw [and_1_of _ q.toNat_lt, show q.toNat % 2 = 0 by omega]; rfl
    clear hX
    go_enter Tryz.func22, Tryz.ntmps22
    go_upto_region 3 with fail
    simp only [List.append_eq, List.cons_append, List.nil_append, List.append]
    go_wp2_with fail
    all_goals
      go_ret
      exact fit_no ((Below.refl _ _).alloc (Nat.le_refl _) _)
  have e11 : bits .and .u8 (q.toNat : Int) 1 = 1 := by rw [and_1_of _ q.toNat_lt, hX]; rfl
  clear hX
  go_enter Tryz.func22, Tryz.ntmps22
  go_upto_region 3 with fail
  simp only [List.append_eq, List.cons_append, List.nil_append, List.append]
  go_wp2_with fail
  go_ret
  exact ⟨⟨true, rfl, fun _ => Or.inr (Or.inl ⟨HK0.out, HPT.out, HAP.out, ⟨x, l, HX.out.1, HX.out.2, HX0.out, HX1.out, HOR.out⟩, HG2.out, HG3.out, HG4.out, ⟨y, HY.out, HY1.out⟩⟩)⟩, (Below.refl _ _).alloc (Nat.le_refl _) _⟩

end Go.Proofs.YtoeepfmmceilaaaGreatDoor
/- laws.FnLineWritten: true of each key. -/
set_option linter.unusedVariables false
set_option linter.unusedSimpArgs false
namespace Go.Proofs.YtoeepfmmceilaaaGreatDoor
open Go.RowKit

theorem keyFits_all (v : Value) (K : KeyP) (w : World) (he : K.e.length ≤ 2147483647) (hn : K.n.length ≤ 2147483647) (hk : KeyAt all_ w v K) : Calls Tryz.prog 22 #[v] w (FitEnd w K) := by
  by_cases h0 : K.kind = 1
  · exact keyFits_rsa all_ v K w h0 hk
  · exact keyFits_ed all_ v K w h0 he hn hk
theorem fit_kind {K : KeyP} (hf : FitK K) : K.kind = 0 ∨ K.kind = 1 ∨ K.kind = 2 := by
  rcases hf with h | h | h
  · exact Or.inl h.1
  · exact Or.inr (Or.inl h.1)
  · exact Or.inr (Or.inr h.1)
theorem keyBody_all (v : Value) (K : KeyP) (w : World) (hf : FitK K) (hk : KeyAt all_ w v K) : Calls Tryz.prog 50 #[v] w (NewS w (keyBodyP K)) := by
  rcases hf with h | h | h
  · obtain ⟨A0, c0, A1, c1, A2, c2, rfl, h1, h2, h3, h4⟩ := hk
    have hb : keyBodyP K = strP K.pt := by unfold keyBodyP; rw [h.1]; rfl
    rw [hb, h.1]
    exact keyBody_ed all_ A0 c0 K.pt _ _ _ w h1.out.1 (by omega) h2.out rfl rfl rfl
  · have hb : keyBodyP K = mulP K.e ++ mulP K.n := by unfold keyBodyP; rw [h.1]; rfl
    rw [hb]
    obtain ⟨h0, h1, h2, _, h3, _, h4, _⟩ := h
    exact keyBody_rsa all_ v K w h0 (by omega) (by omega) hk
  · have hb : keyBodyP K = strP K.pt ++ strP K.app := by unfold keyBodyP; rw [h.1]; rfl
    rw [hb]
    obtain ⟨h0, h1, h2, _⟩ := h
    exact keyBody_tok all_ v K w h0 (by omega) (by omega) hk
theorem keyBody_len {K : KeyP} (h : FitK K) : (keyBodyP K).length ≤ 700 := by
  have l5 := mulP_len K.e
  have l6 := mulP_len K.n
  unfold keyBodyP
  rcases h with h | h | h
  · obtain ⟨h0, h1, h2, h3, h4⟩ := h
    rw [if_neg (by omega), if_neg (by omega), strP_len_]
    omega
  · obtain ⟨h0, h1, h2, _, h3, _, h4, _⟩ := h
    rw [if_pos h0, List.length_append]
    omega
  · obtain ⟨h0, h1, h2, _⟩ := h
    rw [if_neg (by omega), if_pos h0, List.length_append, strP_len_, strP_len_]
    omega
theorem keyBytes_lt {K : KeyP} (h : FitK K) : (keyBytesP K).length < 768 := by
  have h1 := keyBody_len h
  have h2 := nameK_len K.kind
  unfold keyBytesP
  rw [List.length_append, strP_len_]
  omega
theorem keyBytes_all (v : Value) (K : KeyP) (w : World) (hf : FitK K) (hk : KeyAt all_ w v K) : Calls Tryz.prog 24 #[v] w (NewS w (keyBytesP K)) := by
  have HK := hk
  obtain ⟨A0, c0, A1, c1, A2, c2, rfl, h1, h2, h3, h4⟩ := hk
  exact keyBytes_g K.kind _ _ _ _ (keyBodyP K) w (fit_kind hf) rfl rfl rfl rfl (by have := keyBody_len hf; omega) (fun W hb => keyBody_all _ K W hf (HK.keep (Keep.of_below hb)))
theorem lineText_all (v : Value) (K : KeyP) (w : World) (hf : FitK K) (hk : KeyAt all_ w v K) : Calls Tryz.prog 25 #[v] w fun e w' => e = .returned (.string ⟨(nameK K.kind ++ [32] ++ b64P (keyBytesP K)).toArray⟩) ∧ Below w.heap.size w w' := by
  have HK := hk
  obtain ⟨A0, c0, A1, c1, A2, c2, rfl, h1, h2, h3, h4⟩ := hk
  exact lineText_g K.kind _ _ _ _ (keyBytesP K) w (fit_kind hf) rfl rfl rfl rfl (keyBytesP_len hf) (fun W hb => keyBytes_all _ K W hf (HK.keep (Keep.of_below hb)))

end Go.Proofs.YtoeepfmmceilaaaGreatDoor
/- laws.FnLineWritten: true of each key. -/
set_option linter.unusedVariables false
set_option linter.unusedSimpArgs false
namespace Go.Proofs.YtoeepfmmceilaaaGreatDoor
open Go.RowKit

theorem lines_b (w : World) : Calls Tryz.prog 10 #[] w fun e w' => e = .returned (.bool true) ∧ Below w.heap.size w w' := lines_walk w
set_option maxRecDepth 100000 in
set_option maxHeartbeats 1600000 in
theorem fn_lineWritten (v : Value) (K : KeyP) (w : World) (hk : KeyAt all_ w v K) :
    Calls Tryz.prog 7 #[v] w fun e w' => e = .returned (.bool true) ∧ Below w.heap.size w w' := by
  have HK := Lib.hid hk
  obtain ⟨A0, c0, A1, c1, A2, c2, hv, h1, h2, h3, h4⟩ := hk
  obtain ⟨v1, e1⟩ : ∃ x : Value, x = .slice A0 K.pt.length c0 := ⟨_, rfl⟩
  obtain ⟨v2, e2⟩ : ∃ x : Value, x = .string ⟨K.app.toArray⟩ := ⟨_, rfl⟩
  obtain ⟨v3, e3⟩ : ∃ x : Value, x = .slice A1 K.e.length c1 := ⟨_, rfl⟩
  obtain ⟨v4, e4⟩ : ∃ x : Value, x = .slice A2 K.n.length c2 := ⟨_, rfl⟩
  obtain ⟨v0, e0⟩ : ∃ x : Value, x = .int .i64 K.kind := ⟨_, rfl⟩
  have o0 : v0.oneCell' = true := by rw [e0]; rfl
  have o1 : v1.oneCell' = true := by rw [e1]; rfl
  have o2 : v2.oneCell' = true := by rw [e2]; rfl
  have o3 : v3.oneCell' = true := by rw [e3]; rfl
  have o4 : v4.oneCell' = true := by rw [e4]; rfl
  rw [← e0, ← e1, ← e2, ← e3, ← e4] at hv
  subst hv
  clear e0 e1 e2 e3 e4 h1 h2 h3 h4
  obtain ⟨W1, hW1⟩ : ∃ W, W = w.alloc (.cells #[v0, v1, v2, v3, v4] 44) := ⟨_, rfl⟩
  have b1 : Below w.heap.size w W1 := by rw [hW1]; exact (Below.refl _ _).alloc (Nat.le_refl _) _
  have g1 : Blk W1 w.heap.size 44 #[v0, v1, v2, v3, v4] := by rw [hW1]; exact Blk.new _ _ _
  have HB1 := Lib.hid b1
  have HG1 := Lib.hid g1
  have HW1 := Lib.hid hW1
  have HZ := Lib.hid (zzFits1_walk all_ _ K W1 (HK.out.keep (Keep.of_below b1)))
  clear b1 g1 hW1
  go_enter Tryz.func7, Tryz.ntmps7
  go_wp2_with (go_at_call 21; rw [← HW1.out]; refine HZ.out.mono ?_; refine Hid.out ?_)
  refine Lib.hid ?_
  rintro e w2 ⟨⟨b, rfl, hb⟩, h2⟩
  have B2 : Below w.heap.size w w2 := HB1.out.trans (h2.mono HB1.out.size)
  cases b
  · go_wp2_with fail
    go_ret
    exact ⟨rfl, B2⟩
  obtain ⟨he, hn⟩ := hb rfl
  have G2 : Blk w2 w.heap.size 44 #[v0, v1, v2, v3, v4] := (h2.block _ HG1.out.lt).trans HG1.out
  have HF := Lib.hid (keyFits_all _ K w2 he hn (HK.out.keep (Keep.of_below B2)))
  have k0 : w2.cell? ⟨w.heap.size, 0, none⟩ = some v0 := G2.cell 0
  have k1 : w2.cell? ⟨w.heap.size, 1, none⟩ = some v1 := G2.cell 1
  have k2 : w2.cell? ⟨w.heap.size, 2, none⟩ = some v2 := G2.cell 2
  have k3 : w2.cell? ⟨w.heap.size, 3, none⟩ = some v3 := G2.cell 3
  have k4 : w2.cell? ⟨w.heap.size, 4, none⟩ = some v4 := G2.cell 4
  have HB2 := Lib.hid B2
  have HG2 := Lib.hid G2
  clear hb h2 B2 G2 he hn
  go_wp2_with (go_at_call 22; refine HF.out.mono ?_; refine Hid.out ?_)
  refine Lib.hid ?_
  unfold FitEnd
  rintro e w3 ⟨⟨b, rfl, hb⟩, h3⟩
  have B3 : Below w.heap.size w w3 := HB2.out.trans (h3.mono HB2.out.size)
  clear k0 k1 k2 k3 k4
  cases b
  · have HB3 := Lib.hid B3
    clear hb h3 B3
    go_wp2_with (go_at_call 10; refine (lines_walk _).mono ?_; rintro e w4 ⟨rfl, h4⟩; have H4 := Lib.hid h4; clear h4)
    go_ret
    exact ⟨rfl, HB3.out.trans (H4.out.mono HB3.out.size)⟩
  have hf := hb rfl
  have G3 : Blk w3 w.heap.size 44 #[v0, v1, v2, v3, v4] := (h3.block _ HG2.out.lt).trans HG2.out
  have HKB := Lib.hid (keyBytes_all _ K w3 hf (HK.out.keep (Keep.of_below B3)))
  have HWL := Lib.hid (fun (W : World) (A : Option Addr) (c : Nat) (hr : RR (lit byteV) all_ W A (keyBytesP K)) => writeLine_walk A c K W hf (keyBytes_lt hf) hr)
  have HLT := Lib.hid (fun (W : World) (hb : Below w.heap.size w W) => lineText_all _ K W hf (HK.out.keep (Keep.of_below hb)))
  have k0 : w3.cell? ⟨w.heap.size, 0, none⟩ = some v0 := G3.cell 0
  have k1 : w3.cell? ⟨w.heap.size, 1, none⟩ = some v1 := G3.cell 1
  have k2 : w3.cell? ⟨w.heap.size, 2, none⟩ = some v2 := G3.cell 2
  have k3 : w3.cell? ⟨w.heap.size, 3, none⟩ = some v3 := G3.cell 3
  have k4 : w3.cell? ⟨w.heap.size, 4, none⟩ = some v4 := G3.cell 4
  have hll := lineL_len K hf
  obtain ⟨X, hX⟩ : ∃ X, X = nameK K.kind ++ [32] ++ b64P (keyBytesP K) := ⟨_, rfl⟩
  obtain ⟨L, hL⟩ : ∃ L, L = lineL K := ⟨_, rfl⟩
  have hLX : L = X ++ [10] := by rw [hL, hX]; rfl
  obtain ⟨kb, hkb⟩ : ∃ L, L = keyBytesP K := ⟨_, rfl⟩
  rw [← hkb] at hX
  simp only [← hX, ← hL, ← hkb] at HKB HWL HLT hll
  have z1 := size_list X
  have zc : (⟨X.toArray⟩ : ByteArray) ++ ⟨#[10]⟩ = ⟨L.toArray⟩ := by rw [hLX]; exact str_one X 10
  have zx : X.length ≤ 100000 := by rw [hLX] at hll; simp at hll; omega
  have zk : (9223372036854775807 < X.length + 1) = False := eq_false (by omega)
  have HB3 := Lib.hid B3
  have HG3 := Lib.hid G3
  clear hb h3 B3 G3 hf hX hL hkb hLX hll zx
  go_upto_region 6 with (first
    | (go_at_call 24; refine HKB.out.mono ?_; rintro e w4 ⟨A, c, rfl, h5, h6, h7, h8⟩; have H5 := Lib.hid (own_all h5); have B4 := Lib.hid (show Below w.heap.size w w4 from HB3.out.trans (h8.mono HB3.out.size)); have G4 := Lib.hid (show Blk w4 w.heap.size 44 #[v0, v1, v2, v3, v4] from (h8.block _ HG3.out.lt).trans HG3.out); clear h5 h6 h7 h8)
    | (go_at_call 26; refine (HWL.out w4 A c H5.out).mono ?_; rintro e w5 ⟨A2, c2, rfl, r5, b5⟩; have R5 := Lib.hid r5; have B5 := Lib.hid (show Below w.heap.size w w5 from B4.out.trans (b5.mono B4.out.size)); have G5 := Lib.hid (show Blk w5 w.heap.size 44 #[v0, v1, v2, v3, v4] from (b5.block _ G4.out.lt).trans G4.out); clear r5 b5))
  clear k0 k1 k2 k3 k4
  have HR := Lib.hid (fun (W : World) (hb : Below w5.heap.size w5 W) => run_to_string (P := Tryz.prog) Tryz.underlying28 Tryz.underlying5 Tryz.underlying9 c2 (R5.out.keep (lit_steady _) (Keep.of_below hb)))
  go_region_law (first
    | (go_simp; go_at_call 10; refine (lines_walk _).mono ?_; rintro e w6 ⟨rfl, h6⟩; have b6 : Below w5.heap.size w5 w6 := ⟨h6.os, h6.tape, h6.output, h6.size, h6.block⟩; have g6 : Blk w6 w.heap.size 44 #[v0, v1, v2, v3, v4] := (b6.block _ G5.out.lt).trans G5.out; have j0 : w6.cell? ⟨w.heap.size, 0, none⟩ = some v0 := g6.cell 0; have j1 : w6.cell? ⟨w.heap.size, 1, none⟩ = some v1 := g6.cell 1; have j2 : w6.cell? ⟨w.heap.size, 2, none⟩ = some v2 := g6.cell 2; have j3 : w6.cell? ⟨w.heap.size, 3, none⟩ = some v3 := g6.cell 3; have j4 : w6.cell? ⟨w.heap.size, 4, none⟩ = some v4 := g6.cell 4; have hc6 := HR.out w6 b6; have B6 := Lib.hid b6; clear h6 b6 g6)
    | (go_simp; go_at_call 25; refine (HLT.out w6 (B5.out.trans (B6.out.mono B5.out.size))).mono ?_; rintro e w7 ⟨rfl, h7⟩; have b7 : Below w5.heap.size w5 w7 := B6.out.trans (h7.mono B6.out.size); have hc7 := HR.out w7 b7; have B7 := Lib.hid b7; clear h7 b7))
  all_goals
    go_wp2_with fail
    go_ret
    exact ⟨rfl, B5.out.trans (B7.out.mono B5.out.size)⟩

end Go.Proofs.YtoeepfmmceilaaaGreatDoor
