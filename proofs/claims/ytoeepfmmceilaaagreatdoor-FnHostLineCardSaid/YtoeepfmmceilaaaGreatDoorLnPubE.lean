/- ssh.parseED25519, parsePubKey, ParsePublicKey of an Ed25519 key's bytes; its methods Type and Marshal. -/
import Derived.Test.YtoeepfmmceilaaaGreatDoorLnEdP
import Derived.Test.YtoeepfmmceilaaaGreatDoorLnWMar
set_option linter.unusedVariables false
set_option linter.unusedSimpArgs false
namespace Go.Proofs.YtoeepfmmceilaaaGreatDoor
open Go.RowKit

/-- An Ed25519 key as the parser hands it out. -/
def EdPub (ok : Nat → Prop) (w : World) (v : Value) (pt : List UInt8) : Prop :=
  ∃ (A : Option Addr) (c : Nat), v = .iface 218 (.slice A pt.length c) ∧ pt.length ≤ c ∧ c ≤ 9223372036854775807 ∧ RR (lit byteV) ok w A pt
set_option maxRecDepth 100000 in
set_option maxHeartbeats 1000000 in
theorem parseEd_walk (ok : Nat → Prop) (A : Option Addr) (c : Nat) (pt : List UInt8) (w : World) (hl : pt.length = 32) (hc : (strP pt).length ≤ c) (hm : c ≤ 9223372036854775807) (hok : ∀ b, ok b → b < w.heap.size) (hr : RR (lit byteV) ok w A (strP pt)) :
    Calls Tryz.prog 130 #[.slice A (strP pt).length c] w fun e w' => ∃ v A2 c2, e = .returned (.tuple #[v, .slice A2 0 c2, .nilIface]) ∧ EdPub ok w' v pt ∧ Below w.heap.size w w' := by
  have hsl : (strP pt).length = 36 := by rw [strP_len_, hl]
  have hb1 : Below w.heap.size w (w.alloc (.cells #[.slice none 0 0, .slice none 0 0] 216)) := (Below.refl _ _).alloc (Nat.le_refl _) _
  have HU := Lib.hid (unmarshal_walk ok A c (strP pt) (w.alloc (.cells #[.slice none 0 0, .slice none 0 0] 216)) 217 246 w.heap.size 216 #[.slice none 0 0, .slice none 0 0] [(98, 0), (114, 1)] (by omega) (by omega) (by decide) hc hm (fun b hb => Nat.ne_of_lt (hok b hb)) (hr.keep (lit_steady _) (Keep.of_below hb1)) (Blk.new _ _ _) ⟨rfl, Or.inl rfl, rfl, Or.inr (Or.inr rfl), Nat.le_refl _⟩ (fun W => by kernel_rfl) (fun W => by kernel_rfl) (fun W => fields_edWire W _))
  have HUE : ∀ e w2, UnmEnd ok (w.alloc (.cells #[.slice none 0 0, .slice none 0 0] 216)) w.heap.size 216 [(98, 0), (114, 1)] (strP pt) e w2 → e = .returned .nilIface ∧ ∃ A1 c1 A2 c2, w2.cell? ⟨w.heap.size, 0, none⟩ = some (.slice A1 32 c1) ∧ w2.cell? ⟨w.heap.size, 1, none⟩ = some (.slice A2 0 c2) ∧ Hid (32 ≤ c1 ∧ c1 ≤ 9223372036854775807 ∧ RR (lit byteV) ok w2 A1 pt) ∧ Hid (Below w.heap.size w w2) := by
    intro e w2 hue
    obtain ⟨hk, hm2⟩ := hue
    rw [show ([(98, 0), (114, 1)] : List (UInt8 × Nat)).map (·.1) = [98, 114] from rfl, rd_ed pt (by omega)] at hm2
    obtain ⟨he, cs, hb, _, hg⟩ := hm2
    obtain ⟨_, v, hv, A1, c1, rfl, h1, h2, h3⟩ := hg 0 (.b pt) (98, 0) rfl rfl
    obtain ⟨_, v2, hv2, A2, c2, rfl, h4, h5, h6⟩ := hg 1 (.r []) (114, 1) rfl rfl
    rw [hl] at hv h1
    refine ⟨he, A1, c1, A2, c2, (hb.cell 0).trans hv, (hb.cell 1).trans hv2, ⟨h1, h2, h3⟩, ?_⟩
    have hz : w.heap.size ≤ w2.heap.size := Nat.le_trans (by simp) hk.size
    refine ⟨hk.os, hk.tape, hk.output, hz, fun b hbz => ?_⟩
    rw [hk.block b (by simp; omega) (fun e => by omega)]
    exact hb1.block b hbz
  have HUE := Lib.hid HUE
  rw [hsl] at HU hc ⊢
  clear hr hc hb1
  go_enter Tryz.func130, Tryz.ntmps130
  go_wp2_with (go_at_call 145; refine HU.out.mono ?_; intro e w2 hue; obtain ⟨rfl, A1, c1, A2, c2, k0, k1, h1, h2⟩ := HUE.out e w2 hue; clear hue)
  go_quiet (fail)
  go_wp2
  go_ret3
  exact ⟨.iface 218 (.slice A1 32 c1), A2, c2, rfl, ⟨A1, c1, by rw [hl], by rw [hl]; exact h1.out.1, h1.out.2.1, h1.out.2.2.keep (lit_steady _) ((Keep.refl _ _).drewN _)⟩, h2.out.os, h2.out.tape, h2.out.output, h2.out.size, h2.out.block⟩

set_option maxRecDepth 100000 in
set_option maxHeartbeats 1000000 in
theorem pubKey_ed (ok : Nat → Prop) (A : Option Addr) (c : Nat) (pt : List UInt8) (w : World) (hl : pt.length = 32) (hc : (strP pt).length ≤ c) (hm : c ≤ 9223372036854775807) (hok : ∀ b, ok b → b < w.heap.size) (hr : RR (lit byteV) ok w A (strP pt)) :
    Calls Tryz.prog 102 #[.slice A (strP pt).length c, .string ⟨nameEd.toArray⟩] w fun e w' => ∃ v A2 c2, e = .returned (.tuple #[v, .slice A2 0 c2, .nilIface]) ∧ EdPub ok w' v pt ∧ Below w.heap.size w w' := by
  have HP := Lib.hid (parseEd_walk ok A c pt w hl hc hm hok hr)
  clear hr hc hok hl
  unfold nameEd
  go_enter Tryz.func102, Tryz.ntmps102
  go_wp2_with (go_at_call 130; refine HP.out.mono ?_; rintro e w2 ⟨v, A2, c2, rfl, h1, h2⟩)
  go_ret3
  exact ⟨v, A2, c2, rfl, h1, h2⟩

set_option maxRecDepth 100000 in
set_option maxHeartbeats 1000000 in
theorem parsePub_ed (ok : Nat → Prop) (A : Option Addr) (c : Nat) (pt : List UInt8) (w : World) (hl : pt.length = 32) (hc : (edBytes pt).length ≤ c) (hm : c ≤ 9223372036854775807) (hok : ∀ b, ok b → b < w.heap.size) (hr : RR (lit byteV) ok w A (edBytes pt)) :
    Calls Tryz.prog 71 #[.slice A (edBytes pt).length c] w fun e w' => ∃ v, e = .returned (.tuple #[v, .nilIface]) ∧ EdPub ok w' v pt ∧ Below w.heap.size w w' := by
  have hel := edBytes_len pt
  have HS := Lib.hid (parseStr_some ok A c (edBytes pt) nameEd (strP pt) w (by omega) hc hm hr (psP_str nameEd (strP pt) (by decide)))
  have HP := Lib.hid (fun (W : World) (A : Option Addr) (c : Nat) (hz : w.heap.size ≤ W.heap.size) (hb : Byts ok W (.slice A (strP pt).length c) (strP pt)) => pubKey_ed ok A c pt W hl (byts_parts hb).1 (byts_parts hb).2.1 (fun b hb => Nat.lt_of_lt_of_le (hok b hb) hz) (byts_parts hb).2.2)
  clear hr hc hok hl hel
  go_enter Tryz.func71, Tryz.ntmps71
  go_wp2_with (first
    | (go_at_call 101; refine HS.out.mono ?_; rintro e w2 ⟨A1, c1, A2, c2, rfl, h1, h2, h3⟩; have hcv := run_to_string (P := Tryz.prog) Tryz.underlying28 Tryz.underlying5 Tryz.underlying9 c1 (byts_parts h1).2.2; have H2 := Lib.hid h2; have H3 := Lib.hid h3; clear h1 h2 h3)
    | (go_at_call 102; refine (HP.out w2 A2 c2 H3.out.size H2.out).mono ?_; rintro e w3 ⟨v, A3, c3, rfl, h4, h5⟩; have H4 := Lib.hid h4; have H5 := Lib.hid h5; clear h4 h5))
  go_ret2
  exact ⟨v, rfl, H4.out, H3.out.trans (H5.out.mono H3.out.size)⟩

theorem type_ed (v : Value) (w : World) : Calls Tryz.prog 248 #[v] w fun e w' => e = .returned (.string ⟨nameEd.toArray⟩) ∧ w' = w := by
  go_enter Tryz.func248, Tryz.ntmps248
  go_wp2
  go_ret
  exact ⟨rfl, rfl⟩

set_option maxRecDepth 100000 in
set_option maxHeartbeats 1000000 in
theorem marshal_ed (ok : Nat → Prop) (A : Option Addr) (c : Nat) (pt : List UInt8) (w : World) (hl : pt.length = 32) (hc : pt.length ≤ c) (hm : c ≤ 9223372036854775807) (hok : ∀ b, ok b → b < w.heap.size) (hr : RR (lit byteV) ok w A pt) :
    Calls Tryz.prog 247 #[.slice A pt.length c] w (MarEnd w.heap.size w (edBytes pt)) := by
  have hb1 : Below w.heap.size w (w.alloc (.cells #[.string ⟨nameEd.toArray⟩, .slice A pt.length c] 345)) := (Below.refl _ _).alloc (Nat.le_refl _) _
  have HM := Lib.hid (marshal_any (w.alloc (.cells #[.string ⟨nameEd.toArray⟩, .slice A pt.length c] 345)) w.heap.size 346 264 345 #[.string ⟨nameEd.toArray⟩, .slice A pt.length c] [(115, 0), (98, 1)] [.s nameEd, .b pt] (Blk.new _ _ _) rfl (by decide)
    (by
      intro i fv q h1 h2
      match i, h1, h2 with
      | 0, h1, h2 =>
        injection h1 with h1
        injection h2 with h2
        subst h1 h2
        exact ⟨rfl, rfl⟩
      | 1, h1, h2 =>
        injection h1 with h1
        injection h2 with h2
        subst h1 h2
        exact ⟨rfl, _, rfl, A, c, rfl, hc, hm, (hr.keep (lit_steady _) (Keep.of_below hb1)).mono (lit_steady _) (fun b _ hb => Nat.lt_of_lt_of_le (hok b hb) hb1.size)⟩
      | n + 2, h1, h2 => simp at h1)
    (by
      intro fv hfv
      rcases List.mem_cons.1 hfv with rfl | hfv
      · show nameEd.length ≤ 4000; decide
      · rcases List.mem_cons.1 hfv with rfl | hfv
        · show pt.length ≤ 4000; omega
        · cases hfv)
    (fun W => by kernel_rfl) (fun W => by kernel_rfl) (fun W => fields_edKey W _))
  have hms : mshAll [.s nameEd, .b pt] = edBytes pt := by simp [mshAll, mshV, edBytes]
  rw [hms] at HM
  have HB := Lib.hid hb1
  clear hb1 hr hok hc hms hl
  rw [show (⟨nameEd.toArray⟩ : ByteArray) = ⟨#[115, 115, 104, 45, 101, 100, 50, 53, 53, 49, 57]⟩ from rfl] at HM
  go_enter Tryz.func247, Tryz.ntmps247
  go_wp2_with (go_at_call 205; refine HM.out.mono ?_; rintro e w2 ⟨A2, c2, rfl, hown2, hb2⟩; have HO2 := Lib.hid hown2; have HB2 := Lib.hid hb2; clear hown2 hb2)
  go_ret
  exact ⟨A2, c2, rfl, own_base HO2.out HB.out.size, HB.out.trans (HB2.out.mono HB.out.size)⟩

end Go.Proofs.YtoeepfmmceilaaaGreatDoor
