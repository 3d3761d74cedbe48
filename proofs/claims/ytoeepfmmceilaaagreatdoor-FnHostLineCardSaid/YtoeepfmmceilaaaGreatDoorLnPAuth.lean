/- ssh.parseAuthorizedKey of an Ed25519 key's base 64 with a comment. -/
import Derived.Test.YtoeepfmmceilaaaGreatDoorLnDec
import Derived.Test.YtoeepfmmceilaaaGreatDoorLnTrim
import Derived.Test.YtoeepfmmceilaaaGreatDoorLnPubE
set_option linter.unusedVariables false
set_option linter.unusedSimpArgs false
namespace Go.Proofs.YtoeepfmmceilaaaGreatDoor
open Go.RowKit

theorem sign_blank_all : ∀ d : Fin 64, blankB (signP d.val) = false := by decide
theorem sign_blank {n : Nat} (h : n < 64) : blankB (signP n) = false := sign_blank_all ⟨n, h⟩
theorem b64P_blank : ∀ (l : List UInt8) (y : UInt8), y ∈ b64P l → blankB y = false
  | a :: b :: c :: r, y, hy => by
    have ha := a.toNat_lt
    have hb := b.toNat_lt
    have hc := c.toNat_lt
    simp only [b64P, List.mem_cons] at hy
    rcases hy with rfl | rfl | rfl | rfl | hy
    · exact sign_blank (by omega)
    · exact sign_blank (by omega)
    · exact sign_blank (by omega)
    · exact sign_blank (by omega)
    · exact b64P_blank r y hy
  | [a, b], y, hy => by
    have ha := a.toNat_lt
    have hb := b.toNat_lt
    simp only [b64P, List.mem_cons, List.not_mem_nil, or_false] at hy
    rcases hy with rfl | rfl | rfl | rfl
    · exact sign_blank (by omega)
    · exact sign_blank (by omega)
    · exact sign_blank (by omega)
    · rfl
  | [a], y, hy => by
    have ha := a.toNat_lt
    simp only [b64P, List.mem_cons, List.not_mem_nil, or_false] at hy
    rcases hy with rfl | rfl | rfl | rfl
    · exact sign_blank (by omega)
    · exact sign_blank (by omega)
    · rfl
    · rfl
  | [], y, hy => by cases hy
theorem slice_to {P : Program} (t e : TypeId) {i : TypeInfo} (ht : P.underlying t = some (.slice e)) (hi : P.info? e = some i) (hsz : i.size = 1) (A : Option Addr) (n c m : Nat) (hm : m ≤ n) (hc : n ≤ c) (W : World) :
    (Instr.slice t (.slice A n c) none (some (.int .i64 (m : Int))) none).run P W = .ok (.slice A m c) W := by
  have hel : P.elem t = e := by simp [Program.elem, ht]
  have hu : P.underlying t = some (.slice (P.elem t)) := by rw [hel]; exact ht
  rw [run_slice_h W t A n c hu .i64 (m : Int) (Int.natCast_nonneg _) (by omega), hel]
  cases A <;> simp [sizeOf, typeInfo, hi, hsz, sliced, Result.andThen, Addr.add]

set_option maxRecDepth 100000 in
set_option maxHeartbeats 400000 in
theorem parseAuth_ed (ok : Nat → Prop) (A : Option Addr) (c : Nat) (xs pt cm : List UInt8) (w : World) (hpt : pt.length = 32) (hl : xs.length ≤ 1000000) (hc : xs.length ≤ c) (hm : c ≤ 9223372036854775807) (h : trimP xs = b64P (edBytes pt) ++ 32 :: cm) (hr : RR (lit byteV) ok w A xs) :
    Calls Tryz.prog 62 #[.slice A xs.length c] w fun e w' => ∃ v, e = .returned (.tuple #[v, .string ⟨(trimP (32 :: cm)).toArray⟩, .nilIface]) ∧ EdPub (fun b => w.heap.size ≤ b) w' v pt ∧ Below w.heap.size w w' := by
  have HT1 := Lib.hid (trimSpace_walk (fun b => b < w.heap.size) A c xs w hl hc hm (hr.mono (lit_steady _) (fun b hb _ => hb)))
  have htl := trimP_len xs
  obtain ⟨T, hT⟩ : ∃ T, T = trimP xs := ⟨_, rfl⟩
  rw [← hT] at HT1 h htl
  have hel : (edBytes pt).length = 51 := by rw [edBytes_len, hpt]
  obtain ⟨Bs, hBs⟩ : ∃ B, B = b64P (edBytes pt) := ⟨_, rfl⟩
  have hbl : Bs.length = 68 := by rw [hBs, b64P_len, hel]
  have hf : firstV T = 68 := by
    have h1 : firstP T = 68 := by
      rw [h, firstP_app _ _ _ (fun y hy => b64P_blank _ y hy) rfl, ← hBs, hbl]
    have h2 : 68 < T.length := by rw [h, List.length_append, ← hBs, hbl, List.length_cons]; omega
    unfold firstV
    rw [h1, if_pos h2]
    rfl
  rw [← hBs] at h
  have hTl : T.length = 69 + cm.length := by rw [h, List.length_append, hbl, List.length_cons]; omega
  have HI := Lib.hid (fun (A2 : Option Addr) (c2 : Nat) (h : RR (lit byteV) (fun b => b < w.heap.size) w A2 T) => indexAny_walk (fun b => b < w.heap.size) A2 c2 T w (by omega) h)
  rw [hf] at HI
  obtain ⟨R, hR⟩ : ∃ R, R = 32 :: cm := ⟨_, rfl⟩
  have hRl : R.length = cm.length + 1 := by rw [hR, List.length_cons]
  rw [← hR] at h ⊢
  have HCT : ∀ (A2 : Option Addr) (c2 : Nat), T.length ≤ c2 →
      (∃ A3, (∀ W : World, (Instr.slice 28 (.slice A2 T.length c2) none (some (.int .i64 68)) none).run Tryz.prog W = .ok (.slice A3 Bs.length c2) W) ∧ Hid (Bs.length ≤ c2) ∧ Hid (∀ (ok : Nat → Prop) (W : World), RR (lit byteV) ok W A2 T → RR (lit byteV) ok W A3 Bs)) ∧
      (∃ A4 c4, (∀ W : World, (Instr.slice 28 (.slice A2 T.length c2) (some (.int .i64 68)) none none).run Tryz.prog W = .ok (.slice A4 R.length c4) W) ∧ Hid (R.length ≤ c4 ∧ c4 ≤ c2) ∧ Hid (∀ (ok : Nat → Prop) (W : World), RR (lit byteV) ok W A2 T → RR (lit byteV) ok W A4 R)) := by
    intro A2 c2 hc2
    obtain ⟨i0, hi0, _, hsz, _⟩ := info_parts info_u8
    obtain ⟨A3, ys, r0, e1, l1, q1⟩ := cut_to (P := Tryz.prog) 28 5 .i64 Tryz.underlying28 hi0 hsz A2 c2 T 68 (by omega) hc2
    obtain ⟨A4, zs, r2, e2, l2, q2⟩ := cut_from (P := Tryz.prog) 28 5 .i64 Tryz.underlying28 hi0 hsz A2 c2 T 68 (by omega) hc2
    have e3 : ys = Bs := by rw [e1.out, h, ← hbl, List.take_left]
    have e4 : zs = R := by rw [e2.out, h, ← hbl, List.drop_left]
    subst e3 e4
    exact ⟨⟨A3, r0, l1, fun ok W hx => q1 _ ok W hx⟩, A4, c2 - 68, r2, ⟨l2, by omega⟩, fun ok W hx => q2 _ ok W hx⟩
  have HCT := Lib.hid HCT
  have HDL : ∀ (W : World) (g : Nat), Blk W g 177 encC → Calls Tryz.prog 90 #[.pointer (some ⟨g, 0, none⟩), .int .i64 (Bs.length : Int)] W fun e w' => e = .returned (.int .i64 51) ∧ w' = W := by
    intro W g hb
    have := decodedLen_walk W g Bs.length (by omega) hb
    rw [hbl] at this ⊢
    exact this
  have HDec : ∀ (W : World) (ge gd : Nat) (B : Option Addr) (cb : Nat), Bs.length ≤ cb → RR (lit byteV) (fun b => b < w.heap.size) W B Bs → w.heap.size ≤ gd → Blk W ge 177 encC → Blk W gd 5 (zeros 51) →
      Calls Tryz.prog 91 #[.pointer (some ⟨ge, 0, none⟩), .slice (some ⟨gd, 0, none⟩) 51 51, .slice B Bs.length cb] W fun e w' => e = .returned (.tuple #[.int .i64 51, .nilIface]) ∧ Keep (but gd) W w' ∧ Blk w' gd 5 ((edBytes pt).map byteV).toArray := by
    intro W ge gd B cb hcb hr hgd hb hd
    have hzs : (zeros 51).size = 51 := by kernel_rfl
    have := decode_walk (fun b => b < w.heap.size) B cb (edBytes pt) W ge gd 8 (zeros 51) (by rw [hel]) (by rw [hel]; omega) (by rw [← hBs]; exact hcb) (by rw [← hBs]; exact hr) (fun b hb => by omega) hb hd (by rw [hzs, hel])
    rw [hel, ← hBs] at this
    exact this
  have HPub : ∀ (W : World) (gd : Nat), Blk W gd 5 ((edBytes pt).map byteV).toArray → Calls Tryz.prog 71 #[.slice (some ⟨gd, 0, none⟩) 51 51] W fun e w' => ∃ v, e = .returned (.tuple #[v, .nilIface]) ∧ EdPub (fun b => b = gd) w' v pt ∧ Below W.heap.size W w' := by
    intro W gd hb
    have := parsePub_ed (fun b => b = gd) (some ⟨gd, 0, none⟩) 51 pt W hpt (by rw [hel]; omega) (by omega) (fun b hb' => by rw [hb']; exact hb.lt) (rr_blk hb)
    rw [hel] at this
    exact this
  have hmk : ∀ W : World, (Instr.makeSlice 28 (.int .i64 51) (.int .i64 51)).run Tryz.prog W = .ok (.slice (some ⟨W.heap.size, 0, none⟩) 51 51) (W.alloc (.cells (zeros 51) 5)) := fun W => run_make_bytes (P := Tryz.prog) Tryz.underlying28 info_u8 51 (by omega) W
  have hcut : ∀ (W : World) (gd : Nat), (Instr.slice 28 (.slice (some ⟨gd, 0, none⟩) 51 51) none (some (.int .i64 51)) none).run Tryz.prog W = .ok (.slice (some ⟨gd, 0, none⟩) 51 51) W := fun W gd => by
    obtain ⟨i0, hi0, _, hsz, _⟩ := info_parts info_u8
    exact slice_to (P := Tryz.prog) 28 5 Tryz.underlying28 hi0 hsz (some ⟨gd, 0, none⟩) 51 51 51 (by omega) (by omega) W
  have HDL := Lib.hid HDL
  have HDec := Lib.hid HDec
  have HPub := Lib.hid HPub
  have HCM := Lib.hid (show R.length ≤ 1000000 by omega)
  have HBl := Lib.hid hbl
  clear hr h hT hBs hel hf htl hl hc hm hpt hbl hTl hR hRl
  go_enter Tryz.func62, Tryz.ntmps62
  go_upto_region 6 with (first
    | (go_at_call 60; refine HT1.out.mono ?_; rintro e w1 ⟨hw, A2, c2, rfl, h1, h2, h3⟩; (have hw := hw.symm); subst hw; obtain ⟨⟨A3, r0, l1, q1⟩, A4, c4, r2, l2, q2⟩ := HCT.out A2 c2 h1; have H2 := Lib.hid h2; have H3 := Lib.hid h3; clear h1 h2 h3)
    | (go_at_call 61; refine (HI.out A2 c2 H3.out).mono ?_; rintro e w1 ⟨rfl, hw⟩; (have hw := hw.symm); subst hw))
  go_upto_region 7 with (first
    | (go_at_call 79; refine (zzB64_walk _).mono ?_; rintro e wz ⟨rfl, hz1, hz2⟩; have HZ1 := Lib.hid hz1; have HZ2 := Lib.hid hz2; clear hz1 hz2)
    | (go_at_call 90; refine (HDL.out _ _ HZ1.out).mono ?_; rintro e w1 ⟨rfl, hw⟩; (have hw := hw.symm); subst hw))
  have HB1 := Lib.hid (show Below w.heap.size w (wz.alloc (.cells (zeros 51) 5)) from HZ2.out.alloc HZ2.out.size _)
  have HD1 := Lib.hid (Blk.new wz 5 (zeros 51))
  have es := Lib.hid (show (wz.alloc (.cells (zeros 51) 5)).heap.size = wz.heap.size + 1 by simp)
  obtain ⟨W1, hW1⟩ : ∃ W, W = wz.alloc (.cells (zeros 51) 5) := ⟨_, rfl⟩
  obtain ⟨gd, hgd⟩ : ∃ n, n = wz.heap.size := ⟨_, rfl⟩
  rw [← hW1, ← hgd] at es HD1
  rw [← hW1] at HB1 ⊢
  have HG := Lib.hid (show w.heap.size ≤ gd by rw [hgd]; exact HZ2.out.size)
  have HL := Lib.hid (show gd < W1.heap.size by rw [es.out]; omega)
  rw [← hgd]
  clear hW1 hgd HZ1 HZ2
  go_upto_region 14 with (first
    | (go_at_call 79; refine (zzB64_walk _).mono ?_; rintro e wy ⟨rfl, hy1, hy2⟩; have HY1 := Lib.hid hy1; have HY2 := Lib.hid hy2; clear hy1 hy2)
    | (go_at_call 91; refine (HDec.out _ _ _ _ _ l1.out (RR.keep (q1.out _ _ H3.out) (lit_steady _) (Keep.of_below (HB1.out.trans (HY2.out.mono HB1.out.size)))) HG.out HY1.out ((HY2.out.block _ HL.out).trans HD1.out)).mono ?_; rintro e wd ⟨rfl, hd1, hd2⟩; have HE1 := Lib.hid hd1; have HE2 := Lib.hid hd2; clear hd1 hd2)
    | (go_at_call 71; refine (HPub.out _ _ HE2.out).mono ?_; rintro e wp ⟨v, rfl, hp1, hp2⟩; have HP1 := Lib.hid hp1; have HP2 := Lib.hid hp2; clear hp1 hp2))
  have hbz : Below w.heap.size w wp := by
    have h1 := HB1.out
    have h2 := HY2.out.mono h1.size
    have h3 := HE1.out
    have h4 : w.heap.size ≤ wd.heap.size := Nat.le_trans (Nat.le_trans h1.size h2.size) h3.size
    have h12 := h1.trans h2
    have h123 : Below w.heap.size w wd := ⟨h3.os.trans h12.os, h3.tape.trans h12.tape, h3.output.trans h12.output, h4, fun k hk => (h3.block k (Nat.lt_of_lt_of_le hk h12.size) (by have := HG.out; show k ≠ gd; omega)).trans (h12.block k hk)⟩
    exact h123.trans (HP2.out.mono h4)
  have HT2 := Lib.hid (trimSpace_walk (fun b => b < w.heap.size) A4 c4 R wp HCM.out l2.out.1 (Nat.le_trans l2.out.2 H2.out) ((q2.out _ _ H3.out).keep (lit_steady _) (Keep.of_below hbz)))
  have HBZ := Lib.hid hbz
  clear hbz
  go_wp2_with (go_at_call 60; refine HT2.out.mono ?_; rintro e w9 ⟨hw, A9, c9, rfl, h7, h8, h9⟩; (have hw := hw.symm); subst hw; have cv := run_to_string (P := Tryz.prog) Tryz.underlying28 Tryz.underlying5 Tryz.underlying9 c9 h9; clear h7 h8 h9)
  go_ret3
  obtain ⟨A8, c8, e8, h81, h82, h83⟩ := HP1.out
  exact ⟨v, rfl, ⟨A8, c8, e8, h81, h82, h83.mono (lit_steady _) (fun b _ hb => by rw [hb]; exact HG.out)⟩, HBZ.out⟩

end Go.Proofs.YtoeepfmmceilaaaGreatDoor
