/- impl.parsed of a key's bytes; impl.WriteLine. -/
import Derived.Test.YtoeepfmmceilaaaGreatDoorLnMak
import Derived.Test.YtoeepfmmceilaaaGreatDoorLnRl1
import Derived.Test.YtoeepfmmceilaaaGreatDoorLnCalm
import Derived.Deep.RegionHeld3
set_option linter.unusedVariables false
set_option linter.unusedSimpArgs false
namespace Go.Proofs.YtoeepfmmceilaaaGreatDoor
open Go.RowKit

set_option maxRecDepth 100000 in
set_option maxHeartbeats 1600000 in
theorem parsed1_walk (A : Option Addr) (c : Nat) (K : KeyP) (w : World) (gi gk ge : Nat) (hf : FitK K) (hr : RR (lit byteV) all_ w A (keyBytesP K))
    (hi : w.cell? ⟨gi, 0, none⟩ = some (.slice A (keyBytesP K).length c)) (hk : Blk w gk 70 #[.nilIface]) (he : Blk w ge 67 #[.nilIface]) (hne : gk ≠ ge) :
    Calls Tryz.prog 70 #[.pointer (some ⟨gi, 0, none⟩), .pointer (some ⟨gk, 0, none⟩), .pointer (some ⟨ge, 0, none⟩)] w fun e w' => e = .returned (.tuple #[]) ∧ ∃ T u, Blk w' gk 70 #[.iface T u] ∧ Blk w' ge 67 #[.nilIface] ∧ PubAt (fun b => w.heap.size ≤ b) w' (.iface T u) K ∧ Keep (but2 gk ge) w w' := by
  have hl := keyBytesP_len hf
  have HO := Lib.hid (news_of (own_new all_ A c (keyBytesP K) w (by omega) hr))
  have HP := Lib.hid (fun (W : World) (A1 : Option Addr) (c1 : Nat) (hz : w.heap.size ≤ W.heap.size) (h2 : (keyBytesP K).length ≤ c1) (h3 : c1 ≤ 9223372036854775807) (h1 : RR (lit byteV) (fun b => w.heap.size ≤ b) W A1 (keyBytesP K)) => parsePub_k A1 c1 K W w.heap.size hz hf h2 h3 (h1.mono (lit_steady _) (fun b hb ho => ⟨ho, hb⟩)))
  obtain ⟨kb, hkb⟩ : ∃ k, k = keyBytesP K := ⟨_, rfl⟩
  simp only [← hkb] at HO HP hi
  have HK := Lib.hid hk
  have HE := Lib.hid he
  clear hk he hf hr hkb hl
  go_enter Tryz.func70, Tryz.ntmps70
  go_wp2_with (first
    | (go_at_call 38; refine HO.out.mono ?_; rintro e w1 ⟨A1, c1, rfl, h1, h2, h3, h4⟩; have H1 := Lib.hid (own_hi h1); have H2 := Lib.hid h2; have H3 := Lib.hid h3; have H4 := Lib.hid h4; clear h1 h2 h3 h4)
    | (go_at_call 71; refine (HP.out w1 A1 c1 H4.out.size H2.out H3.out H1.out).mono ?_; rintro e w2 ⟨T, u, rfl, h5, h6⟩; have H5 := Lib.hid h5; have H6 := Lib.hid (show Below w.heap.size w w2 from H4.out.trans (h6.mono H4.out.size)); have HK2 := Lib.hid (show Blk w2 gk 70 #[.nilIface] from (H6.out.block _ HK.out.lt).trans HK.out); have HE2 := Lib.hid (show Blk w2 ge 67 #[.nilIface] from (H6.out.block _ HE.out.lt).trans HE.out); have k0 : w2.cell? ⟨gk, 0, none⟩ = some .nilIface := HK2.out.cell 0; have f0 := HK2.out.frozen 0; have k1 : ∀ v, (w2.setCell ⟨gk, 0, none⟩ v).cell? ⟨ge, 0, none⟩ = some .nilIface := (fun v => (HE2.out.far (p := ⟨gk, 0, none⟩) (fun e => hne e.symm) v).cell 0); have f1 : ∀ v, (w2.setCell ⟨gk, 0, none⟩ v).frozen? ⟨ge, 0, none⟩ = false := (fun v => (HE2.out.far (p := ⟨gk, 0, none⟩) (fun e => hne e.symm) v).frozen 0); clear h5 h6))
  go_end0
  have h6 := H6.out
  have K9 : Keep (but2 gk ge) w2 ((w2.setCell ⟨gk, 0, none⟩ (.iface T u)).setCell ⟨ge, 0, none⟩ .nilIface) := ((Keep.refl _ _).setCell (fun _ hn => hn.1 rfl) _).setCell (fun _ hn => hn.2 rfl) _
  refine ⟨rfl, T, u, ?_, ?_, ?_, ?_⟩
  · have h1 := (HK2.out.set_ 0 (.iface T u)).far (p := ⟨ge, 0, none⟩) (fun e => hne e) .nilIface
    exact h1
  · have h1 := (HE2.out.far (p := ⟨gk, 0, none⟩) (fun e => hne e.symm) (.iface T u)).set_ 0 .nilIface
    exact h1
  · exact H5.out.keep (K9.mono fun b _ hb => ⟨by have := HK.out.lt; omega, by have := HE.out.lt; omega⟩)
  · exact (Keep.of_below h6).trans K9

end Go.Proofs.YtoeepfmmceilaaaGreatDoor
/- impl.parsed, impl.WriteLine. -/
set_option linter.unusedVariables false
set_option linter.unusedSimpArgs false
namespace Go.Proofs.YtoeepfmmceilaaaGreatDoor
open Go.RowKit

set_option maxRecDepth 100000 in
set_option maxHeartbeats 1600000 in
theorem parsed_walk (A : Option Addr) (c : Nat) (K : KeyP) (w : World) (hf : FitK K) (hr : RR (lit byteV) all_ w A (keyBytesP K)) :
    Calls Tryz.prog 44 #[.slice A (keyBytesP K).length c] w fun e w' => ∃ T u, e = .returned (.tuple #[.iface T u, .bool true]) ∧ PubAt (fun b => w.heap.size ≤ b) w' (.iface T u) K ∧ Below w.heap.size w w' := by
  have hmf : ∀ (fn : Fn) (first cap : Array Value) (w : World), (Instr.makeFunc fn first cap).run Tryz.prog w = .ok (.func fn first cap) w := fun _ _ _ _ => rfl
  have hRL := Lib.hid (fun (W : World) (gi gk ge : Nat) (hr : RR (lit byteV) all_ W A (keyBytesP K)) => parsed1_walk A c K W gi gk ge hf hr)
  have HR := Lib.hid hr
  have hkl := keyBytesP_len hf
  have hl' : ¬ (300000 : Int) < ((keyBytesP K).length : Int) := by omega
  obtain ⟨kb, hkb⟩ : ∃ k, k = keyBytesP K := ⟨_, rfl⟩
  simp only [← hkb] at hRL HR hl' hkl ⊢
  clear hr hf hkb
  go_enter Tryz.func44, Tryz.ntmps44
  go_upto_region 4 with fail
  obtain ⟨W1, hW1⟩ : ∃ W, W = ((w.alloc (.cells #[.slice A kb.length c] 28)).alloc (.cells #[.nilIface] 70)).alloc (.cells #[.nilIface] 67) := ⟨_, rfl⟩
  rw [← hW1]
  have hz : W1.heap.size = w.heap.size + 3 := by rw [hW1]; simp
  have hb1 : Below w.heap.size w W1 := by rw [hW1]; exact (((Below.refl _ _).alloc (Nat.le_refl _) _).alloc (by simp) _).alloc (by simp; omega) _
  have hbi : Blk W1 w.heap.size 28 #[.slice A kb.length c] := by rw [hW1]; exact ((Blk.new w _ _).alloc _).alloc _
  have hbl : Blk W1 (w.heap.size + 1) 70 #[.nilIface] := by
    rw [hW1]
    have := (Blk.new (w.alloc (.cells #[.slice A kb.length c] 28)) 70 #[.nilIface]).alloc (.cells #[.nilIface] 67)
    simpa using this
  have hbe : Blk W1 (w.heap.size + 1 + 1) 67 #[.nilIface] := by
    rw [hW1]
    have := Blk.new ((w.alloc (.cells #[.slice A kb.length c] 28)).alloc (.cells #[.nilIface] 70)) 67 #[.nilIface]
    simpa using this
  clear hW1
  have hbn : Below W1.heap.size W1 (W1.alloc (.cells #[.bool false] 4)) := (Below.refl _ _).alloc (Nat.le_refl _) _
  have hr1 : RR (lit byteV) all_ (W1.alloc (.cells #[.bool false] 4)) A kb := (HR.out.keep (lit_steady _) (Keep.of_below hb1)).keep (lit_steady _) (Keep.of_below hbn)
  have hcl := hRL.out (W1.alloc (.cells #[.bool false] 4)) w.heap.size (w.heap.size + 1) (w.heap.size + 1 + 1) hr1 ((hbi.alloc _).cell 0) (hbl.alloc _) (hbe.alloc _) (by omega)
  have hzn : (W1.alloc (.cells #[.bool false] 4)).heap.size = w.heap.size + 4 := by simp [hz]
  have HC := Lib.hid (calm_walk 70 #[.pointer (some ⟨w.heap.size, 0, none⟩), .pointer (some ⟨w.heap.size + 1, 0, none⟩), .pointer (some ⟨w.heap.size + 1 + 1, 0, none⟩)] W1 (fun W => ∃ T u, Blk W (w.heap.size + 1) 70 #[.iface T u] ∧ Blk W (w.heap.size + 1 + 1) 67 #[.nilIface] ∧ PubAt (fun b => w.heap.size + 4 ≤ b) W (.iface T u) K ∧ Below w.heap.size w W) (fun W => by kernel_rfl)
    (hcl.mono fun e w' ⟨h0, T, u, h1, h2, h4, h3⟩ => by
      have hnb := (Blk.new W1 4 #[.bool false]).keep h3 (show but2 _ _ _ from ⟨by omega, by omega⟩)
      rw [hzn] at h4
      refine ⟨h0, hnb.cell 0, hnb.frozen 0, T, u, h1, h2, h4, ?_⟩
      have hs : w.heap.size ≤ w'.heap.size := Nat.le_trans (Nat.le_trans hb1.size hbn.size) h3.size
      exact ⟨h3.os.trans hb1.os, h3.tape.trans hb1.tape, h3.output.trans hb1.output, hs, fun k hk => (h3.block k (Nat.lt_of_lt_of_le hk (Nat.le_trans hb1.size hbn.size)) ⟨by omega, by omega⟩).trans ((hbn.block k (Nat.lt_of_lt_of_le hk hb1.size)).trans (hb1.block k hk))⟩))
  have HZ := Lib.hid hz
  clear hcl hr1 hbn hbi hbl hbe hb1 hz hzn
  go_upto_region 5 with (go_at_call 35; refine HC.out.mono ?_; rintro e w2 ⟨rfl, w3, ⟨T, u, h4, h5, h6, h7⟩, hw2⟩; have H4 := Lib.hid h4; have H5 := Lib.hid h5; have H6 := Lib.hid h6; have H7 := Lib.hid h7; have HW2 := Lib.hid hw2; clear h4 h5 h6 h7 hw2)
  have K32 : Keep (but W1.heap.size) w3 w2 := by rw [HW2.out]; exact (Keep.refl _ _).setCell (fun _ hn => hn rfl) _
  have HK2 := Lib.hid (show Blk w2 (w.heap.size + 1) 70 #[.iface T u] from H4.out.keep K32 (show _ ≠ _ by have := HZ.out; omega))
  have HE2 := Lib.hid (show Blk w2 (w.heap.size + 1 + 1) 67 #[.nilIface] from H5.out.keep K32 (show _ ≠ _ by have := HZ.out; omega))
  have HB2 := Lib.hid (show Below w.heap.size w w2 from H7.out.trans (below_but K32 H7.out.size (by have := HZ.out; omega)))
  have HP2 := Lib.hid (show PubAt (fun b => w.heap.size + 4 ≤ b) w2 (.iface T u) K from H6.out.keep (K32.mono fun b _ hb => by have := HZ.out; show b ≠ _; omega))
  have e0 : w2.cell? ⟨w.heap.size + 1 + 1, 0, none⟩ = some .nilIface := HE2.out.cell 0
  have k0 : w2.cell? ⟨w.heap.size + 1, 0, none⟩ = some (.iface T u) := HK2.out.cell 0
  have f0 := HK2.out.frozen 0
  have q0 : (w2.setCell ⟨w.heap.size + 1, 0, none⟩ (.iface T u)).cell? ⟨w.heap.size + 1, 0, none⟩ = some (.iface T u) := (HK2.out.set_ 0 (.iface T u)).cell 0
  have q1 : (w2.setCell ⟨w.heap.size + 1, 0, none⟩ (.iface T u)).cell? ⟨w.heap.size + 1 + 1, 0, none⟩ = some .nilIface := (HE2.out.far (p := ⟨w.heap.size + 1, 0, none⟩) (by show w.heap.size + 1 + 1 ≠ w.heap.size + 1; omega) (.iface T u)).cell 0
  clear K32
  go_region_held3 (fun w' => w'.cell? ⟨w.heap.size + 1, 0, none⟩ = some (.iface T u) ∧ w'.cell? ⟨w.heap.size + 1 + 1, 0, none⟩ = some .nilIface) (first | go_keep | exact ⟨q0, q1⟩) (first | fail)
  go_wp2_with fail
  have K9 : Keep (but (w.heap.size + 1)) w2 (w2.setCell ⟨w.heap.size + 1, 0, none⟩ (.iface T u)).drew := ((Keep.refl _ _).setCell (fun _ hn => hn rfl) _).drewN 1
  exact bodyPost_ret (v := .tuple #[.iface T u, .bool true]) (by simp [results, Tryz.results44, go_sem, q0]) rfl ⟨T, u, rfl, (HP2.out.keep (K9.mono fun b _ hb => by show b ≠ _; omega)).mono (fun b _ hb => by omega), HB2.out.trans (below_but K9 HB2.out.size (by omega))⟩

theorem lineL_len (K : KeyP) (hf : FitK K) : (lineL K).length ≤ 100000 := by
  have h1 := keyBytesP_len hf
  have h2 := nameK_len K.kind
  unfold lineL
  simp only [List.length_append, List.length_cons, List.length_nil, b64P_len]
  omega
set_option maxRecDepth 100000 in
set_option maxHeartbeats 800000 in
theorem wl1_walk (T : TypeId) (u : Value) (K : KeyP) (w : World) (gk go : Nat) (hf : FitK K) (h7 : (keyBytesP K).length < 768) (hP : PubAt (fun b => b < w.heap.size) w (.iface T u) K) (hk : w.cell? ⟨gk, 0, none⟩ = some (.iface T u)) (hgo : Blk w go 28 #[.slice none 0 0]) :
    Calls Tryz.prog 51 #[.pointer (some ⟨gk, 0, none⟩), .pointer (some ⟨go, 0, none⟩)] w fun e w' => e = .returned (.tuple #[]) ∧ ∃ A c, Blk w' go 28 #[.slice A (lineL K).length c] ∧ Hid ((lineL K).length ≤ c ∧ c ≤ 9223372036854775807) ∧ RR (lit byteV) (fun k => w.heap.size ≤ k) w' A (lineL K) ∧ Keep (but go) w w' := by
  have HM := Lib.hid (mak_walk T u K w hf h7 hP)
  obtain ⟨L, hL⟩ : ∃ L, L = lineL K := ⟨_, rfl⟩
  rw [← hL] at HM ⊢
  have HG := Lib.hid hgo
  clear hP hgo hL hf h7
  go_enter Tryz.func51, Tryz.ntmps51
  go_wp2_with (go_at_call 52; refine HM.out.mono ?_; rintro e w2 ⟨⟨A, c, rfl, h1, h2, h3⟩, h4⟩; have HN := Lib.hid (And.intro h1 h2); have HR := Lib.hid h3; have HB := Lib.hid h4; have HG2 := Lib.hid (show Blk w2 go 28 #[.slice none 0 0] from (h4.block _ HG.out.lt).trans HG.out); have k0 : w2.cell? ⟨go, 0, none⟩ = some (.slice none 0 0) := HG2.out.cell 0; have f0 := HG2.out.frozen 0; clear h1 h2 h3 h4)
  go_end0
  have K9 : Keep (but go) w2 (w2.setCell ⟨go, 0, none⟩ (.slice A L.length c)) := (Keep.refl _ _).setCell (fun _ hn => hn rfl) _
  exact ⟨rfl, A, c, HG2.out.set_ 0 _, HN, HR.out.keep (lit_steady _) (K9.mono fun b _ hb => by have := HG.out.lt; show b ≠ go; omega), (Keep.of_below HB.out).trans K9⟩

set_option maxRecDepth 100000 in
set_option maxHeartbeats 1600000 in
theorem writeLine_walk (A : Option Addr) (c : Nat) (K : KeyP) (w : World) (hf : FitK K) (h7 : (keyBytesP K).length < 768) (hr : RR (lit byteV) all_ w A (keyBytesP K)) :
    Calls Tryz.prog 26 #[.slice A (keyBytesP K).length c] w fun e w' => ∃ A2 c2, e = .returned (.tuple #[.slice A2 (lineL K).length c2, .bool true]) ∧ RR (lit byteV) all_ w' A2 (lineL K) ∧ Below w.heap.size w w' := by
  have hmf : ∀ (fn : Fn) (first cap : Array Value) (w : World), (Instr.makeFunc fn first cap).run Tryz.prog w = .ok (.func fn first cap) w := fun _ _ _ _ => rfl
  obtain ⟨W1, hW1⟩ : ∃ W, W = w.alloc (.cells #[.slice none 0 0] 28) := ⟨_, rfl⟩
  have hb1 : Below w.heap.size w W1 := by rw [hW1]; exact (Below.refl _ _).alloc (Nat.le_refl _) _
  have hG1 : Blk W1 w.heap.size 28 #[.slice none 0 0] := by rw [hW1]; exact Blk.new _ _ _
  have HPW := Lib.hid (parsed_walk A c K W1 hf (hr.keep (lit_steady _) (Keep.of_below hb1)))
  have HWL := Lib.hid (fun (T : TypeId) (u : Value) (W : World) (gk : Nat) => wl1_walk T u K W gk w.heap.size hf h7)
  obtain ⟨L, hL⟩ : ∃ L, L = lineL K := ⟨_, rfl⟩
  obtain ⟨kb, hkb⟩ : ∃ L, L = keyBytesP K := ⟨_, rfl⟩
  simp only [← hL, ← hkb] at HPW HWL ⊢
  have HB1 := Lib.hid hb1
  have HG1 := Lib.hid hG1
  have HW1 := Lib.hid hW1
  clear hr hf h7 hL hkb hb1 hG1 hW1
  go_enter Tryz.func26, Tryz.ntmps26
  go_upto_region 4 with (go_at_call 44; rw [← HW1.out]; refine HPW.out.mono ?_; rintro e w2 ⟨T, u, rfl, h1, h2⟩; have H1 := Lib.hid h1; have H2 := Lib.hid h2; clear h1 h2)
  obtain ⟨W4, hW4⟩ : ∃ W, W = w2.alloc (.cells #[.iface T u] 70) := ⟨_, rfl⟩
  rw [← hW4]
  have z4 : W4.heap.size = w2.heap.size + 1 := by rw [hW4]; simp
  have b4 : Below w2.heap.size w2 W4 := by rw [hW4]; exact (Below.refl _ _).alloc (Nat.le_refl _) _
  have k4 : Blk W4 w2.heap.size 70 #[.iface T u] := by rw [hW4]; exact Blk.new _ _ _
  clear hW4
  have bn : Below W4.heap.size W4 (W4.alloc (.cells #[.bool false] 4)) := (Below.refl _ _).alloc (Nat.le_refl _) _
  have zn : (W4.alloc (.cells #[.bool false] 4)).heap.size = w2.heap.size + 2 := by simp [z4]
  have c2' : Below w.heap.size w w2 := HB1.out.trans (H2.out.mono HB1.out.size)
  have c4 : Below w.heap.size w (W4.alloc (.cells #[.bool false] 4)) := (c2'.trans (b4.mono c2'.size)).trans (bn.mono (Nat.le_trans c2'.size b4.size))
  have hlt : w.heap.size < W1.heap.size := HG1.out.lt
  have hlt2 : W1.heap.size ≤ w2.heap.size := H2.out.size
  have g4 : Blk (W4.alloc (.cells #[.bool false] 4)) w.heap.size 28 #[.slice none 0 0] := (bn.block _ (by omega)).trans ((b4.block _ (by omega)).trans ((H2.out.block _ hlt).trans HG1.out))
  have p4 : PubAt (fun b => b < (W4.alloc (.cells #[.bool false] 4)).heap.size) (W4.alloc (.cells #[.bool false] 4)) (.iface T u) K := (((H1.out.mono (ok' := fun b => b < w2.heap.size) (fun b hb _ => hb)).keep (Keep.of_below b4)).mono (ok' := fun b => b < W4.heap.size) (fun b hb _ => hb)).keep (Keep.of_below bn) |>.mono (fun b hb _ => hb)
  have hcl := HWL.out T u (W4.alloc (.cells #[.bool false] 4)) w2.heap.size p4 ((k4.alloc _).cell 0) g4
  have HC := Lib.hid (calm_walk 51 #[.pointer (some ⟨w2.heap.size, 0, none⟩), .pointer (some ⟨w.heap.size, 0, none⟩)] W4 (fun W => ∃ A2 c2, Blk W w.heap.size 28 #[.slice A2 L.length c2] ∧ RR (lit byteV) (fun k => w2.heap.size + 2 ≤ k) W A2 L ∧ Below w.heap.size w W) (fun W => by kernel_rfl)
    (hcl.mono fun e w' ⟨h0, A2, c2, h1, h2, h4, h3⟩ => by
      have hnb := (Blk.new W4 4 #[.bool false]).keep h3 (show W4.heap.size ≠ w.heap.size by omega)
      rw [zn] at h4
      exact ⟨h0, hnb.cell 0, hnb.frozen 0, A2, c2, h1, h4, c4.trans (below_but h3 c4.size (Nat.le_refl _))⟩))
  have HZ := Lib.hid (And.intro z4 (And.intro hlt hlt2))
  clear hcl z4 b4 k4 bn zn c2' c4 hlt hlt2 g4 p4
  go_upto_region 5 with (go_at_call 35; refine HC.out.mono ?_; rintro e w5 ⟨rfl, w6, ⟨A2, c2, h4, h5, h6⟩, hw5⟩; have H4 := Lib.hid h4; have H5 := Lib.hid h5; have H6 := Lib.hid h6; have HW5 := Lib.hid hw5; clear h4 h5 h6 hw5)
  have K65 : Keep (but W4.heap.size) w6 w5 := by rw [HW5.out]; exact (Keep.refl _ _).setCell (fun _ hn => hn rfl) _
  have hz := HZ.out
  have g5 : Blk w5 w.heap.size 28 #[.slice A2 L.length c2] := H4.out.keep K65 (show _ ≠ _ by omega)
  have HR5 := Lib.hid (show RR (lit byteV) (fun k => w2.heap.size + 2 ≤ k) w5 A2 L from H5.out.keep (lit_steady _) (K65.mono fun b _ hb => by show b ≠ _; omega))
  have HB5 := Lib.hid (show Below w.heap.size w w5 from H6.out.trans (below_but K65 H6.out.size (by omega)))
  have k0 : w5.cell? ⟨w.heap.size, 0, none⟩ = some (.slice A2 L.length c2) := g5.cell 0
  have f0 := g5.frozen 0
  have q0 : (w5.setCell ⟨w.heap.size, 0, none⟩ (.slice A2 L.length c2)).cell? ⟨w.heap.size, 0, none⟩ = some (.slice A2 L.length c2) := (g5.set_ 0 _).cell 0
  clear K65 hz
  go_wp2_with fail
  have K9 : Keep (but w.heap.size) w5 (w5.setCell ⟨w.heap.size, 0, none⟩ (.slice A2 L.length c2)) := (Keep.refl _ _).setCell (fun _ hn => hn rfl) _
  exact bodyPost_ret (v := .tuple #[.slice A2 L.length c2, .bool true]) (by simp [results, Tryz.results26, go_sem, q0]) rfl ⟨A2, c2, rfl, (HR5.out.keep (lit_steady _) (K9.mono fun b _ hb => by have := HZ.out; show b ≠ _; omega)).mono (lit_steady _) (fun _ _ _ => trivial), HB5.out.trans (below_but K9 HB5.out.size (Nat.le_refl _))⟩

end Go.Proofs.YtoeepfmmceilaaaGreatDoor
