/- impl.parsed of a key's bytes; impl.WriteLine. -/
import Derived.Test.YtoeepfmmceilaaaGreatDoorLnMak
import Derived.Test.YtoeepfmmceilaaaGreatDoorLnRl1
set_option linter.unusedVariables false
set_option linter.unusedSimpArgs false
namespace Go.Proofs.YtoeepfmmceilaaaGreatDoor
open Go.RowKit

set_option maxRecDepth 100000 in
set_option maxHeartbeats 1600000 in
theorem parsed1_walk (A : Option Addr) (c : Nat) (K : KeyP) (w : World) (gi gk ge : Nat) (hf : FitK K) (hr : RR (lit byteV) all_ w A (keyBytesP K))
    (hi : w.cell? ⟨gi, 0, none⟩ = some (.slice A (keyBytesP K).length c)) (hk : Blk w gk 70 #[.nilIface]) (he : Blk w ge 67 #[.nilIface]) (hne : gk ≠ ge) :
    Calls Tryz.prog 70 #[.pointer (some ⟨gi, 0, none⟩), .pointer (some ⟨gk, 0, none⟩), .pointer (some ⟨ge, 0, none⟩)] w fun e w' => e = .returned (.tuple #[]) ∧ ∃ T u, Blk w' gk 70 #[.iface T u] ∧ Blk w' ge 67 #[.nilIface] ∧ PubAt (fun b => w.heap.size ≤ b) w' (.iface T u) K ∧ Keep (but2 gk ge) w w' := by
  have hl := keyBytesP_len hf
  have HO := Lib.hid (news_of (own_new all_ A c (keyBytesP K) w (by omega) hr))
  have HP := Lib.hid (fun (W : World) (A1 : Option Addr) (c1 : Nat) (hz : w.heap.size ≤ W.heap.size) (h2 : (keyBytesP K).length ≤ c1) (h3 : c1 ≤ 9223372036854775807) (h1 : RR (lit byteV) (fun b => w.heap.size ≤ b) W A1 (keyBytesP K)) => parsePub_k A1 c1 K W w.heap.size hz hf h2 h3 (h1.mono (lit_steady _) (fun b hb ho => ⟨ho, hb⟩)))
  obtain ⟨kb, hkb⟩ : ∃ k, k = keyBytesP K := ⟨_, rfl⟩
  simp only [← hkb] at HO HP hi
  have HK := Lib.hid hk
  have HE := Lib.hid he
  clear hk he hf hr hkb hl
  go_enter Tryz.func70, Tryz.ntmps70
  go_wp2_with (first
    | (go_at_call 38; refine HO.out.mono ?_; rintro e w1 ⟨A1, c1, rfl, h1, h2, h3, h4⟩; have H1 := Lib.hid (own_hi h1); have H2 := Lib.hid h2; have H3 := Lib.hid h3; have H4 := Lib.hid h4; clear h1 h2 h3 h4)
    | (go_at_call 71; refine (HP.out w1 A1 c1 H4.out.size H2.out H3.out H1.out).mono ?_; rintro e w2 ⟨T, u, rfl, h5, h6⟩; have H5 := Lib.hid h5; have H6 := Lib.hid (show Below w.heap.size w w2 from H4.out.trans (h6.mono H4.out.size)); have HK2 := Lib.hid (show Blk w2 gk 70 #[.nilIface] from (H6.out.block _ HK.out.lt).trans HK.out); have HE2 := Lib.hid (show Blk w2 ge 67 #[.nilIface] from (H6.out.block _ HE.out.lt).trans HE.out); have k0 : w2.cell? ⟨gk, 0, none⟩ = some .nilIface := HK2.out.cell 0; have f0 := HK2.out.frozen 0; have k1 : ∀ v, (w2.setCell ⟨gk, 0, none⟩ v).cell? ⟨ge, 0, none⟩ = some .nilIface := (fun v => (HE2.out.far (p := ⟨gk, 0, none⟩) (fun e => hne e.symm) v).cell 0); have f1 : ∀ v, (w2.setCell ⟨gk, 0, none⟩ v).frozen? ⟨ge, 0, none⟩ = false := (fun v => (HE2.out.far (p := ⟨gk, 0, none⟩) (fun e => hne e.symm) v).frozen 0); clear h5 h6))
  go_end0
  have h6 := H6.out
  have K9 : Keep (but2 gk ge) w2 ((w2.setCell ⟨gk, 0, none⟩ (.iface T u)).setCell ⟨ge, 0, none⟩ .nilIface) := ((Keep.refl _ _).setCell (fun _ hn => hn.1 rfl) _).setCell (fun _ hn => hn.2 rfl) _
  refine ⟨rfl, T, u, ?_, ?_, ?_, ?_⟩
  · have h1 := (HK2.out.set_ 0 (.iface T u)).far (p := ⟨ge, 0, none⟩) (fun e => hne e) .nilIface
    exact h1
  · have h1 := (HE2.out.far (p := ⟨gk, 0, none⟩) (fun e => hne e.symm) (.iface T u)).set_ 0 .nilIface
    exact h1
  · exact H5.out.keep (K9.mono fun b _ hb => ⟨by have := HK.out.lt; omega, by have := HE.out.lt; omega⟩)
  · exact (Keep.of_below h6).trans K9

end Go.Proofs.YtoeepfmmceilaaaGreatDoor
