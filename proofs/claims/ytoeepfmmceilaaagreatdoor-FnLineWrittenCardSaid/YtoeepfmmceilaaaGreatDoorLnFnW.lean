/- laws.FnLineWritten: true of each key. -/
import Derived.Test.YtoeepfmmceilaaaGreatDoorLnWrL
import Derived.Test.YtoeepfmmceilaaaGreatDoorLnKeyH
import Derived.Test.YtoeepfmmceilaaaGreatDoorLnFitR
import Derived.Test.YtoeepfmmceilaaaGreatDoorLnLines
set_option linter.unusedVariables false
set_option linter.unusedSimpArgs false
namespace Go.Proofs.YtoeepfmmceilaaaGreatDoor
open Go.RowKit

theorem keyFits_all (v : Value) (K : KeyP) (w : World) (he : K.e.length ≤ 2147483647) (hn : K.n.length ≤ 2147483647) (hk : KeyAt all_ w v K) : Calls Tryz.prog 22 #[v] w (FitEnd w K) := by
  by_cases h0 : K.kind = 1
  · exact keyFits_rsa all_ v K w h0 hk
  · exact keyFits_ed all_ v K w h0 he hn hk
theorem fit_kind {K : KeyP} (hf : FitK K) : K.kind = 0 ∨ K.kind = 1 ∨ K.kind = 2 := by
  rcases hf with h | h | h
  · exact Or.inl h.1
  · exact Or.inr (Or.inl h.1)
  · exact Or.inr (Or.inr h.1)
theorem keyBody_all (v : Value) (K : KeyP) (w : World) (hf : FitK K) (hk : KeyAt all_ w v K) : Calls Tryz.prog 50 #[v] w (NewS w (keyBodyP K)) := by
  rcases hf with h | h | h
  · obtain ⟨A0, c0, A1, c1, A2, c2, rfl, h1, h2, h3, h4⟩ := hk
    have hb : keyBodyP K = strP K.pt := by unfold keyBodyP; rw [h.1]; rfl
    rw [hb, h.1]
    exact keyBody_ed all_ A0 c0 K.pt _ _ _ w h1.out.1 (by omega) h2.out rfl rfl rfl
  · have hb : keyBodyP K = mulP K.e ++ mulP K.n := by unfold keyBodyP; rw [h.1]; rfl
    rw [hb]
    obtain ⟨h0, h1, h2, _, h3, _, h4, _⟩ := h
    exact keyBody_rsa all_ v K w h0 (by omega) (by omega) hk
  · have hb : keyBodyP K = strP K.pt ++ strP K.app := by unfold keyBodyP; rw [h.1]; rfl
    rw [hb]
    obtain ⟨h0, h1, h2, _⟩ := h
    exact keyBody_tok all_ v K w h0 (by omega) (by omega) hk
theorem keyBody_len {K : KeyP} (h : FitK K) : (keyBodyP K).length ≤ 700 := by
  have l5 := mulP_len K.e
  have l6 := mulP_len K.n
  unfold keyBodyP
  rcases h with h | h | h
  · obtain ⟨h0, h1, h2, h3, h4⟩ := h
    rw [if_neg (by omega), if_neg (by omega), strP_len_]
    omega
  · obtain ⟨h0, h1, h2, _, h3, _, h4, _⟩ := h
    rw [if_pos h0, List.length_append]
    omega
  · obtain ⟨h0, h1, h2, _⟩ := h
    rw [if_neg (by omega), if_pos h0, List.length_append, strP_len_, strP_len_]
    omega
theorem keyBytes_lt {K : KeyP} (h : FitK K) : (keyBytesP K).length < 768 := by
  have h1 := keyBody_len h
  have h2 := nameK_len K.kind
  unfold keyBytesP
  rw [List.length_append, strP_len_]
  omega
theorem keyBytes_all (v : Value) (K : KeyP) (w : World) (hf : FitK K) (hk : KeyAt all_ w v K) : Calls Tryz.prog 24 #[v] w (NewS w (keyBytesP K)) := by
  have HK := hk
  obtain ⟨A0, c0, A1, c1, A2, c2, rfl, h1, h2, h3, h4⟩ := hk
  exact keyBytes_g K.kind _ _ _ _ (keyBodyP K) w (fit_kind hf) rfl rfl rfl rfl (by have := keyBody_len hf; omega) (fun W hb => keyBody_all _ K W hf (HK.keep (Keep.of_below hb)))
theorem lineText_all (v : Value) (K : KeyP) (w : World) (hf : FitK K) (hk : KeyAt all_ w v K) : Calls Tryz.prog 25 #[v] w fun e w' => e = .returned (.string ⟨(nameK K.kind ++ [32] ++ b64P (keyBytesP K)).toArray⟩) ∧ Below w.heap.size w w' := by
  have HK := hk
  obtain ⟨A0, c0, A1, c1, A2, c2, rfl, h1, h2, h3, h4⟩ := hk
  exact lineText_g K.kind _ _ _ _ (keyBytesP K) w (fit_kind hf) rfl rfl rfl rfl (keyBytesP_len hf) (fun W hb => keyBytes_all _ K W hf (HK.keep (Keep.of_below hb)))

end Go.Proofs.YtoeepfmmceilaaaGreatDoor
/- laws.FnLineWritten: true of each key. -/
set_option linter.unusedVariables false
set_option linter.unusedSimpArgs false
namespace Go.Proofs.YtoeepfmmceilaaaGreatDoor
open Go.RowKit

theorem lines_b (w : World) : Calls Tryz.prog 10 #[] w fun e w' => e = .returned (.bool true) ∧ Below w.heap.size w w' := lines_walk w
set_option maxRecDepth 100000 in
set_option maxHeartbeats 1600000 in
theorem fn_lineWritten (v : Value) (K : KeyP) (w : World) (hk : KeyAt all_ w v K) :
    Calls Tryz.prog 7 #[v] w fun e w' => e = .returned (.bool true) ∧ Below w.heap.size w w' := by
  have HK := Lib.hid hk
  obtain ⟨A0, c0, A1, c1, A2, c2, hv, h1, h2, h3, h4⟩ := hk
  obtain ⟨v1, e1⟩ : ∃ x : Value, x = .slice A0 K.pt.length c0 := ⟨_, rfl⟩
  obtain ⟨v2, e2⟩ : ∃ x : Value, x = .string ⟨K.app.toArray⟩ := ⟨_, rfl⟩
  obtain ⟨v3, e3⟩ : ∃ x : Value, x = .slice A1 K.e.length c1 := ⟨_, rfl⟩
  obtain ⟨v4, e4⟩ : ∃ x : Value, x = .slice A2 K.n.length c2 := ⟨_, rfl⟩
  obtain ⟨v0, e0⟩ : ∃ x : Value, x = .int .i64 K.kind := ⟨_, rfl⟩
  have o0 : v0.oneCell' = true := by rw [e0]; rfl
  have o1 : v1.oneCell' = true := by rw [e1]; rfl
  have o2 : v2.oneCell' = true := by rw [e2]; rfl
  have o3 : v3.oneCell' = true := by rw [e3]; rfl
  have o4 : v4.oneCell' = true := by rw [e4]; rfl
  rw [← e0, ← e1, ← e2, ← e3, ← e4] at hv
  subst hv
  clear e0 e1 e2 e3 e4 h1 h2 h3 h4
  obtain ⟨W1, hW1⟩ : ∃ W, W = w.alloc (.cells #[v0, v1, v2, v3, v4] 44) := ⟨_, rfl⟩
  have b1 : Below w.heap.size w W1 := by rw [hW1]; exact (Below.refl _ _).alloc (Nat.le_refl _) _
  have g1 : Blk W1 w.heap.size 44 #[v0, v1, v2, v3, v4] := by rw [hW1]; exact Blk.new _ _ _
  have HB1 := Lib.hid b1
  have HG1 := Lib.hid g1
  have HW1 := Lib.hid hW1
  have HZ := Lib.hid (zzFits1_walk all_ _ K W1 (HK.out.keep (Keep.of_below b1)))
  clear b1 g1 hW1
  go_enter Tryz.func7, Tryz.ntmps7
  go_wp2_with (go_at_call 21; rw [← HW1.out]; refine HZ.out.mono ?_; refine Hid.out ?_)
  refine Lib.hid ?_
  rintro e w2 ⟨⟨b, rfl, hb⟩, h2⟩
  have B2 : Below w.heap.size w w2 := HB1.out.trans (h2.mono HB1.out.size)
  cases b
  · go_wp2_with fail
    go_ret
    exact ⟨rfl, B2⟩
  obtain ⟨he, hn⟩ := hb rfl
  have G2 : Blk w2 w.heap.size 44 #[v0, v1, v2, v3, v4] := (h2.block _ HG1.out.lt).trans HG1.out
  have HF := Lib.hid (keyFits_all _ K w2 he hn (HK.out.keep (Keep.of_below B2)))
  have k0 : w2.cell? ⟨w.heap.size, 0, none⟩ = some v0 := G2.cell 0
  have k1 : w2.cell? ⟨w.heap.size, 1, none⟩ = some v1 := G2.cell 1
  have k2 : w2.cell? ⟨w.heap.size, 2, none⟩ = some v2 := G2.cell 2
  have k3 : w2.cell? ⟨w.heap.size, 3, none⟩ = some v3 := G2.cell 3
  have k4 : w2.cell? ⟨w.heap.size, 4, none⟩ = some v4 := G2.cell 4
  have HB2 := Lib.hid B2
  have HG2 := Lib.hid G2
  clear hb h2 B2 G2 he hn
  go_wp2_with (go_at_call 22; refine HF.out.mono ?_; refine Hid.out ?_)
  refine Lib.hid ?_
  unfold FitEnd
  rintro e w3 ⟨⟨b, rfl, hb⟩, h3⟩
  have B3 : Below w.heap.size w w3 := HB2.out.trans (h3.mono HB2.out.size)
  clear k0 k1 k2 k3 k4
  cases b
  · have HB3 := Lib.hid B3
    clear hb h3 B3
    go_wp2_with (go_at_call 10; refine (lines_walk _).mono ?_; rintro e w4 ⟨rfl, h4⟩; have H4 := Lib.hid h4; clear h4)
    go_ret
    exact ⟨rfl, HB3.out.trans (H4.out.mono HB3.out.size)⟩
  have hf := hb rfl
  have G3 : Blk w3 w.heap.size 44 #[v0, v1, v2, v3, v4] := (h3.block _ HG2.out.lt).trans HG2.out
  have HKB := Lib.hid (keyBytes_all _ K w3 hf (HK.out.keep (Keep.of_below B3)))
  have HWL := Lib.hid (fun (W : World) (A : Option Addr) (c : Nat) (hr : RR (lit byteV) all_ W A (keyBytesP K)) => writeLine_walk A c K W hf (keyBytes_lt hf) hr)
  have HLT := Lib.hid (fun (W : World) (hb : Below w.heap.size w W) => lineText_all _ K W hf (HK.out.keep (Keep.of_below hb)))
  have k0 : w3.cell? ⟨w.heap.size, 0, none⟩ = some v0 := G3.cell 0
  have k1 : w3.cell? ⟨w.heap.size, 1, none⟩ = some v1 := G3.cell 1
  have k2 : w3.cell? ⟨w.heap.size, 2, none⟩ = some v2 := G3.cell 2
  have k3 : w3.cell? ⟨w.heap.size, 3, none⟩ = some v3 := G3.cell 3
  have k4 : w3.cell? ⟨w.heap.size, 4, none⟩ = some v4 := G3.cell 4
  have hll := lineL_len K hf
  obtain ⟨X, hX⟩ : ∃ X, X = nameK K.kind ++ [32] ++ b64P (keyBytesP K) := ⟨_, rfl⟩
  obtain ⟨L, hL⟩ : ∃ L, L = lineL K := ⟨_, rfl⟩
  have hLX : L = X ++ [10] := by rw [hL, hX]; rfl
  obtain ⟨kb, hkb⟩ : ∃ L, L = keyBytesP K := ⟨_, rfl⟩
  rw [← hkb] at hX
  simp only [← hX, ← hL, ← hkb] at HKB HWL HLT hll
  have z1 := size_list X
  have zc : (⟨X.toArray⟩ : ByteArray) ++ ⟨#[10]⟩ = ⟨L.toArray⟩ := by rw [hLX]; exact str_one X 10
  have zx : X.length ≤ 100000 := by rw [hLX] at hll; simp at hll; omega
  have zk : (9223372036854775807 < X.length + 1) = False := eq_false (by omega)
  have HB3 := Lib.hid B3
  have HG3 := Lib.hid G3
  clear hb h3 B3 G3 hf hX hL hkb hLX hll zx
  go_upto_region 6 with (first
    | (go_at_call 24; refine HKB.out.mono ?_; rintro e w4 ⟨A, c, rfl, h5, h6, h7, h8⟩; have H5 := Lib.hid (own_all h5); have B4 := Lib.hid (show Below w.heap.size w w4 from HB3.out.trans (h8.mono HB3.out.size)); have G4 := Lib.hid (show Blk w4 w.heap.size 44 #[v0, v1, v2, v3, v4] from (h8.block _ HG3.out.lt).trans HG3.out); clear h5 h6 h7 h8)
    | (go_at_call 26; refine (HWL.out w4 A c H5.out).mono ?_; rintro e w5 ⟨A2, c2, rfl, r5, b5⟩; have R5 := Lib.hid r5; have B5 := Lib.hid (show Below w.heap.size w w5 from B4.out.trans (b5.mono B4.out.size)); have G5 := Lib.hid (show Blk w5 w.heap.size 44 #[v0, v1, v2, v3, v4] from (b5.block _ G4.out.lt).trans G4.out); clear r5 b5))
  clear k0 k1 k2 k3 k4
  have HR := Lib.hid (fun (W : World) (hb : Below w5.heap.size w5 W) => run_to_string (P := Tryz.prog) Tryz.underlying28 Tryz.underlying5 Tryz.underlying9 c2 (R5.out.keep (lit_steady _) (Keep.of_below hb)))
  go_region_law (first
    | (go_simp; go_at_call 10; refine (lines_walk _).mono ?_; rintro e w6 ⟨rfl, h6⟩; have b6 : Below w5.heap.size w5 w6 := ⟨h6.os, h6.tape, h6.output, h6.size, h6.block⟩; have g6 : Blk w6 w.heap.size 44 #[v0, v1, v2, v3, v4] := (b6.block _ G5.out.lt).trans G5.out; have j0 : w6.cell? ⟨w.heap.size, 0, none⟩ = some v0 := g6.cell 0; have j1 : w6.cell? ⟨w.heap.size, 1, none⟩ = some v1 := g6.cell 1; have j2 : w6.cell? ⟨w.heap.size, 2, none⟩ = some v2 := g6.cell 2; have j3 : w6.cell? ⟨w.heap.size, 3, none⟩ = some v3 := g6.cell 3; have j4 : w6.cell? ⟨w.heap.size, 4, none⟩ = some v4 := g6.cell 4; have hc6 := HR.out w6 b6; have B6 := Lib.hid b6; clear h6 b6 g6)
    | (go_simp; go_at_call 25; refine (HLT.out w6 (B5.out.trans (B6.out.mono B5.out.size))).mono ?_; rintro e w7 ⟨rfl, h7⟩; have b7 : Below w5.heap.size w5 w7 := B6.out.trans (h7.mono B6.out.size); have hc7 := HR.out w7 b7; have B7 := Lib.hid b7; clear h7 b7))
  all_goals
    go_wp2_with fail
    go_ret
    exact ⟨rfl, B5.out.trans (B7.out.mono B5.out.size)⟩

end Go.Proofs.YtoeepfmmceilaaaGreatDoor
