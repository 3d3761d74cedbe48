/- The closure of impl.ReadLine at a text whose first line is an Ed25519 key's. -/
import Derived.Test.YtoeepfmmceilaaaGreatDoorLnPLine
set_option linter.unusedVariables false
set_option linter.unusedSimpArgs false
namespace Go.Proofs.YtoeepfmmceilaaaGreatDoor
open Go.RowKit

theorem own_all {w : World} {B : Nat} {e : TypeId} {A : Option Addr} {n c : Nat} {l : List UInt8} (h : w.ownsRow B e 1 (.slice A n c) n (l.map byteV)) : RR (lit byteV) all_ w A l := own_RR h (fun _ _ => trivial)
theorem own_hi {w : World} {B : Nat} {e : TypeId} {A : Option Addr} {n c : Nat} {l : List UInt8} (h : w.ownsRow B e 1 (.slice A n c) n (l.map byteV)) : RR (lit byteV) (fun b => B ≤ b) w A l := own_RR h (fun b hb => own_block_lt_ h hb)
theorem rr_all {ok : Nat → Prop} {w : World} {A : Option Addr} {l : List UInt8} (h : RR (lit byteV) ok w A l) : RR (lit byteV) all_ w A l := h.mono (lit_steady _) (fun _ _ _ => trivial)
/-- What a text's first line is. -/
structure EdLine (xs pt cm R : List UInt8) (p : Nat) : Prop where
  pt32 : pt.length = 32
  end_ : Lib.indexByte xs 10 = (p : Int)
  lt : p < xs.length
  line : trimP (crP (xs.take p)) = nameEd ++ 32 :: R
  key : trimP (32 :: R) = b64P (edBytes pt) ++ 32 :: cm
def but2 (a b : Nat) : Nat → Prop := fun k => k ≠ a ∧ k ≠ b
/-- The line that is read: its comment. -/
def LineAt (w : World) (gl : Nat) (cm : List UInt8) : Prop := ∃ A2 n2 c2 A4 n4 c4 A5 n5 c5, Blk w gl 30 #[.string ⟨#[]⟩, .slice none 0 0, .slice A2 n2 c2, .string ⟨cm.toArray⟩, .slice A4 n4 c4, .slice A5 n5 c5]
set_option maxRecDepth 100000 in
set_option maxHeartbeats 800000 in
theorem rl1 (A : Option Addr) (c : Nat) (xs pt cm R : List UInt8) (p : Nat) (w : World) (gi ge gl : Nat) (hE : EdLine xs pt cm R p) (hl : xs.length ≤ 300000) (hc : xs.length ≤ c) (hm : c ≤ 9223372036854775807) (hr : RR (lit byteV) all_ w A xs)
    (hi : w.cell? ⟨gi, 0, none⟩ = some (.slice A xs.length c)) (he : Blk w ge 67 #[.nilIface]) (hb : Blk w gl 30 #[.string ⟨#[]⟩, .slice none 0 0, .slice none 0 0, .string ⟨#[]⟩, .slice none 0 0, .slice none 0 0]) (hne : ge ≠ gl) :
    Calls Tryz.prog 36 #[.pointer (some ⟨gi, 0, none⟩), .pointer (some ⟨ge, 0, none⟩), .pointer (some ⟨gl, 0, none⟩)] w fun e w' => e = .returned (.tuple #[]) ∧ LineAt w' gl (trimP (32 :: cm)) ∧ Blk w' ge 67 #[.nilIface] ∧ Keep (but2 ge gl) w w' := by
  have HO := Lib.hid (news_of (own_new all_ A c xs w (by omega) hr))
  have HPL := Lib.hid (fun (W : World) (A : Option Addr) (c : Nat) (hc : xs.length ≤ c) (hm : c ≤ 9223372036854775807) (hr : RR (lit byteV) (fun b => w.heap.size ≤ b) W A xs) => parseLine_ed (fun b => w.heap.size ≤ b) A c xs pt cm R p W hE.pt32 (by omega) hc hm hE.end_ hE.lt hE.line hE.key hr)
  have hrl : (xs.drop (p + 1)).length ≤ 300000 := by rw [List.length_drop]; omega
  obtain ⟨rs, hrs⟩ : ∃ rs, rs = xs.drop (p + 1) := ⟨_, rfl⟩
  simp only [← hrs] at HPL hrl
  obtain ⟨tc, htc⟩ : ∃ t, t = trimP (32 :: cm) := ⟨_, rfl⟩
  simp only [← htc] at HPL ⊢
  have hel := edBytes_len pt
  have hpt := hE.pt32
  have HM := Lib.hid (fun (W : World) (A : Option Addr) (c : Nat) (hc : pt.length ≤ c) (hm : c ≤ 9223372036854775807) (hr : RR (lit byteV) all_ W A pt) => marshal_ed (fun b => b < W.heap.size) A c pt W hpt hc hm (fun b h => h) (hr.mono (lit_steady _) (fun b hb _ => hb)))
  obtain ⟨kb, hkb⟩ : ∃ k, k = edBytes pt := ⟨_, rfl⟩
  simp only [← hkb] at HM hel
  have HO2 := Lib.hid (fun (W : World) (A : Option Addr) (c : Nat) (hr : RR (lit byteV) all_ W A kb) => news_of (own_new all_ A c kb W (by omega) hr))
  have HO3 := Lib.hid (fun (W : World) (A : Option Addr) (c : Nat) (hr : RR (lit byteV) all_ W A rs) => news_of (own_new all_ A c rs W (by omega) hr))
  have he0 := Lib.hid he
  have hb0 := Lib.hid hb
  have hgel := he.lt
  have hgll := hb.lt
  clear hr he hb hE hrs htc hkb hel hpt hl hc hm hrl
  go_enter Tryz.func36, Tryz.ntmps36
  go_upto_region 1 with (first
    | (go_at_call 38; refine HO.out.mono ?_; rintro e w1 ⟨A1, c1, rfl, h1, h2, h3, h4⟩; have H1 := Lib.hid h1; have H23 := Lib.hid (And.intro h2 h3); have H4 := Lib.hid h4; clear h1 h2 h3 h4)
    | (go_at_call 37; refine (HPL.out _ _ _ H23.out.1 H23.out.2 (own_hi H1.out)).mono ?_; rintro e w2 ⟨v, A2, c2, rfl, h5, h6, h7⟩; have H5 := Lib.hid h5; have H6 := Lib.hid h6; have H7 := Lib.hid h7; clear h5 h6 h7))
  have HB2 := Lib.hid (show Below w.heap.size w w2 from H4.out.trans (H7.out.mono H4.out.size))
  have HE2 := Lib.hid (show Blk w2 ge 67 #[.nilIface] from (HB2.out.block ge hgel).trans he0.out)
  have hce := HE2.out.cell 0
  have hfe := HE2.out.frozen 0
  go_upto_region 3 with fail
  obtain ⟨W2, hW2⟩ : ∃ W, W = w2.setCell ⟨ge, 0, none⟩ .nilIface := ⟨_, rfl⟩
  rw [← hW2]
  have hks : Keep (but ge) w2 W2 := by rw [hW2]; exact (Keep.refl _ _).setCell (fun _ hn => hn rfl) _
  have HKS := Lib.hid hks
  have HE3 := Lib.hid (show Blk W2 ge 67 #[.nilIface] by rw [hW2]; exact HE2.out.set_ 0 _)
  have HL3 := Lib.hid (show Blk W2 gl 30 #[.string ⟨#[]⟩, .slice none 0 0, .slice none 0 0, .string ⟨#[]⟩, .slice none 0 0, .slice none 0 0] from (show Blk w2 gl 30 #[.string ⟨#[]⟩, .slice none 0 0, .slice none 0 0, .string ⟨#[]⟩, .slice none 0 0, .slice none 0 0] from (HB2.out.block gl hgll).trans hb0.out).keep hks (fun e => hne e.symm))
  have HRS := Lib.hid (And.intro (byts_parts H6.out).1 (byts_parts H6.out).2.1)
  have HRX := Lib.hid (rr_all ((byts_parts H6.out).2.2.keep (lit_steady _) (hks.mono (fun b _ hb => show b ≠ ge by omega))))
  obtain ⟨A8, c8, rfl, h14⟩ := H5.out
  have H14 := Lib.hid h14
  have hg2 := HB2.out.size
  have HR14 := Lib.hid (rr_all (h14.2.2.keep (lit_steady _) (hks.mono (fun b _ hb => show b ≠ ge by have := H4.out.size; omega))))
  have hme : ∀ (W : World) (n : Nat), (method 456 218 (.slice A8 n c8) "Marshal").run Tryz.prog W = .ok (247, .slice A8 n c8) W := fun W n => by kernel_rfl
  clear hks hW2 h14 hce hfe
  go_wp2_with (go_at_call 247; refine (HM.out _ _ _ H14.out.1 H14.out.2.1 HR14.out).mono ?_; rintro e w3 ⟨A3, c3, rfl, h8, h9⟩; have H8 := Lib.hid h8; have H9 := Lib.hid h9; clear h8 h9)
  refine (HO2.out _ _ _ (own_all H8.out)).mono ?_
  rintro e w4 ⟨A4, c4, rfl, h10, h11, h12, h13⟩
  have H10 := Lib.hid h10
  have H13 := Lib.hid h13
  clear h10 h11 h12 h13
  go_wp2_with fail
  have hb4 : Below W2.heap.size W2 (w4.alloc (.cells #[] 9)) := by
    have h3 := H9.out
    have h4 := h3.trans (H13.out.mono h3.size)
    exact h4.alloc h4.size _
  have HB4 := Lib.hid hb4
  refine (HO3.out _ _ _ (HRX.out.keep (lit_steady _) (Keep.of_below hb4))).mono ?_
  rintro e w5 ⟨A5, c5, rfl, h14, h15, h16, h17⟩
  have HB5 := Lib.hid (show Below W2.heap.size W2 w5 from hb4.trans (h17.mono hb4.size))
  clear h14 h15 h16 h17 hb4
  have HL5 := Lib.hid (show Blk w5 gl 30 #[.string ⟨#[]⟩, .slice none 0 0, .slice none 0 0, .string ⟨#[]⟩, .slice none 0 0, .slice none 0 0] from (HB5.out.block gl HL3.out.lt).trans HL3.out)
  have HE5 := Lib.hid (show Blk w5 ge 67 #[.nilIface] from (HB5.out.block ge HE3.out.lt).trans HE3.out)
  have k0 : w5.cell? ⟨gl, 0, none⟩ = some (.string ⟨#[]⟩) := HL5.out.cell 0
  have k1 : w5.cell? ⟨gl, 1, none⟩ = some (.slice none 0 0) := HL5.out.cell 1
  have k2 : w5.cell? ⟨gl, 2, none⟩ = some (.slice none 0 0) := HL5.out.cell 2
  have k3 : w5.cell? ⟨gl, 3, none⟩ = some (.string ⟨#[]⟩) := HL5.out.cell 3
  have k4 : w5.cell? ⟨gl, 4, none⟩ = some (.slice none 0 0) := HL5.out.cell 4
  have k5 : w5.cell? ⟨gl, 5, none⟩ = some (.slice none 0 0) := HL5.out.cell 5
  have f0 := HL5.out.frozen 0
  have f1 := HL5.out.frozen 1
  have f2 := HL5.out.frozen 2
  have f3 := HL5.out.frozen 3
  have f4 := HL5.out.frozen 4
  have f5 := HL5.out.frozen 5
  go_wp2_with fail
  go_end0
  have hs6 := ((((((HL5.out.set_ 0 (.string ⟨#[]⟩)).set_ 1 (.slice none 0 0)).set_ 2 (.slice A4 kb.length c4)).set_ 3 (.string ⟨tc.toArray⟩)).set_ 4 (.slice (some ⟨w4.heap.size, 0, none⟩) 0 0)).set_ 5 (.slice A5 rs.length c5))
  have hks : ∀ (W : World) (i : Nat) (u : Value), Keep (but2 ge gl) W (W.setCell ⟨gl, i, none⟩ u) := fun W i u => (Keep.refl _ _).setCell (fun _ hn => hn.2 rfl) _
  have hk5 : Keep (but2 ge gl) w w5 := ((Keep.of_below HB2.out).trans (HKS.out.mono (fun b _ hb => hb.1))).trans (Keep.of_below HB5.out)
  refine ⟨rfl, ⟨_, _, _, _, _, _, _, _, _, hs6⟩, ?_, (((((hk5.trans (hks _ _ _)).trans (hks _ _ _)).trans (hks _ _ _)).trans (hks _ _ _)).trans (hks _ _ _)).trans (hks _ _ _)⟩
  exact (((((HE5.out.far (p := ⟨gl, 0, none⟩) hne _).far (p := ⟨gl, 1, none⟩) hne _).far (p := ⟨gl, 2, none⟩) hne _).far (p := ⟨gl, 3, none⟩) hne _).far (p := ⟨gl, 4, none⟩) hne _).far (p := ⟨gl, 5, none⟩) hne _

end Go.Proofs.YtoeepfmmceilaaaGreatDoor
