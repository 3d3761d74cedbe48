/- ssh.ParseAuthorizedKey of a text whose first line is an Ed25519 key's. -/
import Derived.Test.YtoeepfmmceilaaaGreatDoorLnPAuth
import Derived.Test.YtoeepfmmceilaaaGreatDoorLnDrop
set_option linter.unusedVariables false
set_option linter.unusedSimpArgs false
namespace Go.Proofs.YtoeepfmmceilaaaGreatDoor
open Go.RowKit

set_option maxRecDepth 100000 in
set_option maxHeartbeats 400000 in
theorem parseLine_ed (ok : Nat → Prop) (A : Option Addr) (c : Nat) (xs pt cm R : List UInt8) (p : Nat) (w : World) (hpt : pt.length = 32) (hl : xs.length ≤ 1000000) (hc : xs.length ≤ c) (hm : c ≤ 9223372036854775807)
    (h1 : Lib.indexByte xs 10 = (p : Int)) (hp : p < xs.length) (h2 : trimP (crP (xs.take p)) = nameEd ++ 32 :: R) (h3 : trimP (32 :: R) = b64P (edBytes pt) ++ 32 :: cm) (hr : RR (lit byteV) ok w A xs) :
    Calls Tryz.prog 37 #[.slice A xs.length c] w fun e w' => ∃ v A2 c2, e = .returned (.tuple #[v, .string ⟨(trimP (32 :: cm)).toArray⟩, .slice none 0 0, .slice A2 (xs.drop (p + 1)).length c2, .nilIface]) ∧ EdPub (fun b => w.heap.size ≤ b) w' v pt ∧ Byts ok w' (.slice A2 (xs.drop (p + 1)).length c2) (xs.drop (p + 1)) ∧ Below w.heap.size w w' := by
  have hr0 := hr.mono (ok' := fun b => b < w.heap.size) (lit_steady _) (fun b hb _ => hb)
  obtain ⟨i0, hi0, _, hsz, _⟩ := info_parts info_u8
  have HX := Lib.hid (indexByte_walk ok A c xs 10 w (by omega) hr)
  rw [h1] at HX
  obtain ⟨A1, rs, r0, e1, l1, q1⟩ := cut_from (P := Tryz.prog) 28 5 .i64 Tryz.underlying28 hi0 hsz A c xs (p + 1) (by omega) hc
  obtain ⟨A2, ls, r2, e2, l2, q2⟩ := cut_to (P := Tryz.prog) 28 5 .i64 Tryz.underlying28 hi0 hsz A c xs p (by omega) hc
  have r1 : ∀ W : World, (Instr.slice 28 (.slice A xs.length c) (some (.int .i64 ((p : Int) + 1))) none none).run Tryz.prog W = .ok (.slice A1 rs.length (c - (p + 1))) W := r0
  rw [← e1.out]
  rw [← e2.out] at h2
  have hll : ls.length ≤ xs.length := by rw [e2.out, List.length_take]; omega
  obtain ⟨cs, hcs⟩ : ∃ cs, cs = crP ls := ⟨_, rfl⟩
  have hcl : cs.length ≤ xs.length := by have := crP_len ls; rw [hcs]; omega
  have HDC := Lib.hid (dropCR_walk (fun b => b < w.heap.size) A2 c ls w (by omega) l2 (q2 _ _ _ hr0))
  rw [← hcs] at h2 HDC
  obtain ⟨ts, hts⟩ : ∃ ts, ts = trimP cs := ⟨_, rfl⟩
  have htl : ts.length ≤ xs.length := by have := trimP_len cs; rw [hts]; omega
  have HTR := Lib.hid (fun (W : World) (A3 : Option Addr) (h : RR (lit byteV) (fun b => b < w.heap.size) W A3 cs) => trimSpace_walk (fun b => b < w.heap.size) A3 c cs W (by omega) (by omega) hm h)
  simp only [← hts] at HTR h2
  have hfirst : firstV ts = 11 := by
    have h4 : firstP ts = 11 := by
      rw [h2, firstP_app nameEd R 32 (by decide) rfl]
      rfl
    have h5 : 11 < ts.length := by rw [h2, List.length_append, List.length_cons]; show 11 < 11 + _; omega
    unfold firstV
    rw [h4, if_pos h5]
    rfl
  have htsl : ts.length = 12 + R.length := by rw [h2, List.length_append, List.length_cons]; show 11 + _ = _; omega
  have HI := Lib.hid (fun (W : World) (A3 : Option Addr) (c3 : Nat) (h : RR (lit byteV) (fun b => b < w.heap.size) W A3 ts) => indexAny_walk (fun b => b < w.heap.size) A3 c3 ts W (by omega) h)
  simp only [hfirst] at HI
  obtain ⟨R1, hR1⟩ : ∃ R1, R1 = 32 :: R := ⟨_, rfl⟩
  rw [← hR1] at h2 h3
  have hR1l : R1.length ≤ 1000000 := by rw [hR1, List.length_cons]; omega
  have HCT : ∀ (A3 : Option Addr) (c3 : Nat), ts.length ≤ c3 →
      (∃ A4, (∀ W : World, (Instr.slice 28 (.slice A3 ts.length c3) none (some (.int .i64 11)) none).run Tryz.prog W = .ok (.slice A4 11 c3) W) ∧ Hid (∀ (ok : Nat → Prop) (W : World), RR (lit byteV) ok W A3 ts → RR (lit byteV) ok W A4 nameEd)) ∧
      (∃ A5 c5, (∀ W : World, (Instr.slice 28 (.slice A3 ts.length c3) (some (.int .i64 11)) none none).run Tryz.prog W = .ok (.slice A5 R1.length c5) W) ∧ Hid (R1.length ≤ c5 ∧ c5 ≤ c3) ∧ Hid (∀ (ok : Nat → Prop) (W : World), RR (lit byteV) ok W A3 ts → RR (lit byteV) ok W A5 R1)) := by
    intro A3 c3 hc3
    obtain ⟨A4, ys, s0, f1, k1, p1⟩ := cut_to (P := Tryz.prog) 28 5 .i64 Tryz.underlying28 hi0 hsz A3 c3 ts 11 (by omega) hc3
    obtain ⟨A5, zs, s2, f2, k2, p2⟩ := cut_from (P := Tryz.prog) 28 5 .i64 Tryz.underlying28 hi0 hsz A3 c3 ts 11 (by omega) hc3
    have f3 : ys = nameEd := by rw [f1.out, h2]; exact List.take_left (l₁ := nameEd)
    have f4 : zs = R1 := by rw [f2.out, h2]; exact List.drop_left (l₁ := nameEd)
    subst f3 f4
    exact ⟨⟨A4, s0, fun ok W hx => p1 _ ok W hx⟩, A5, c3 - 11, s2, ⟨k2, by omega⟩, fun ok W hx => p2 _ ok W hx⟩
  have HCT := Lib.hid HCT
  have HPA := Lib.hid (fun (W : World) (A5 : Option Addr) (c5 : Nat) (h : RR (lit byteV) (fun b => b < w.heap.size) W A5 R1) (hc5 : R1.length ≤ c5) (hm5 : c5 ≤ 9223372036854775807) => parseAuth_ed (fun b => b < w.heap.size) A5 c5 R1 pt cm W hpt hR1l hc5 hm5 h3 h)
  have HT0 : ∀ (A3 : Option Addr) (c3 : Nat) (W : World), RR (lit byteV) (fun b => b < w.heap.size) W A3 ts → ∃ ad, A3 = some ad ∧ W.cell? ad = some (.int .u8 115) := by
    intro A3 c3 W h
    obtain ⟨ad, ha, _, hcc⟩ := RB.at h (by omega)
    exact ⟨ad, ha, hcc 0 115 (by rw [h2]; rfl)⟩
  have HT0 := Lib.hid HT0
  have h0 : ((ts.length : Int) == 0) = false := by rw [beq_eq_false_iff_ne]; omega
  have h01 : (0 : Int) < (ts.length : Int) := by omega
  have hx0 : (0 < xs.length) = True := eq_true (by omega)
  have hpn : ((p : Int) != -1) = true := by simp only [bne_iff_ne, ne_eq]; omega
  have hp2 : p < 1000000 := by omega
  have HRS := Lib.hid (q1 _ _ _ hr)
  have HL1 := Lib.hid l1
  have HM := Lib.hid hm
  clear hr hr0 hl hc hm h1 hp h2 h3 e1 e2 q1 q2 l1 l2 hi0 hsz hll hcs hcl hts htl htsl hR1 hR1l hfirst hpt r0
  go_enter Tryz.func37, Tryz.ntmps37
  go_wp2_with fail
  refine wp_loop_rounds 1 ?_
  rw [rounds_succ]
  go_wp2_with (first
    | (go_at_call 58; refine HX.out.mono ?_; rintro e w1 ⟨rfl, hw⟩; (have hw := hw.symm); subst hw)
    | (go_at_call 59; refine HDC.out.mono ?_; rintro e w2 ⟨A3, rfl, h7, h8⟩; have H7 := Lib.hid h7; have H8 := Lib.hid h8; clear h7 h8)
    | (go_at_call 60; refine (HTR.out _ _ H7.out).mono ?_; rintro e w3 ⟨hw, A4, c4, rfl, h9, h10, h11⟩; (have hw := hw.symm); subst hw; obtain ⟨⟨A6, s1, p1⟩, A5, c5, s2, k2, p2⟩ := HCT.out A4 c4 h9; obtain ⟨ad, rfl, hcell⟩ := HT0.out A4 c4 _ h11; have H9 := Lib.hid (And.intro h9 h10); have H11 := Lib.hid h11; clear h9 h10 h11)
    | (go_at_call 61; refine (HI.out _ _ _ H11.out).mono ?_; rintro e w4 ⟨rfl, hw⟩; (have hw := hw.symm); subst hw)
    | (go_at_call 62; refine (HPA.out _ _ _ (p2.out _ _ H11.out) k2.out.1 (Nat.le_trans k2.out.2 H9.out.2)).mono ?_; rintro e w5 ⟨v, rfl, h12, h13⟩; have H12 := Lib.hid h12; have H13 := Lib.hid h13; clear h12 h13))
  obtain ⟨A8, c8, rfl, h14⟩ := H12.out
  have HBW := Lib.hid (show Below w.heap.size w w5 from H8.out.trans (H13.out.mono H8.out.size))
  have hr6 := (p1.out _ _ H11.out).keep (lit_steady _) (Keep.of_below H13.out)
  have cv1 : (convert 28 9 (.slice A6 11 c4)).run Tryz.prog w5.drew = .ok (.string ⟨#[115, 115, 104, 45, 101, 100, 50, 53, 53, 49, 57]⟩) w5.drew :=
    run_to_string (P := Tryz.prog) Tryz.underlying28 Tryz.underlying5 Tryz.underlying9 (xs := nameEd) c4 (hr6.keep (lit_steady _) ((Keep.refl _ _).drew))
  clear hr6
  have H14 := Lib.hid h14
  clear h14
  have hme : ∀ (W : World) (n : Nat), (method 456 218 (.slice A8 n c8) "Type").run Tryz.prog W = .ok (248, .slice A8 n c8) W := fun W n => by kernel_rfl
  go_region_law ((go_simp; go_at_call 248; refine (type_ed _ _).mono ?_; rintro e w6 ⟨rfl, hw⟩; (have hw := hw.symm); subst hw))
  all_goals
    go_wp2_with fail
    refine bodyPost_ret (v := .tuple #[.iface 218 (.slice A8 pt.length c8), .string ⟨(trimP (32 :: cm)).toArray⟩, .slice none 0 0, .slice A1 rs.length (c - (p + 1)), .nilIface]) (by simp [results, Tryz.results37, go_sem]) rfl ?_
    refine ⟨_, A1, c - (p + 1), rfl, ⟨A8, c8, rfl, H14.out.1, H14.out.2.1, (H14.out.2.2.keep (lit_steady _) ((Keep.refl _ _).drew)).mono (lit_steady _) (fun b _ hb => Nat.le_trans H8.out.size hb)⟩, ⟨A1, c - (p + 1), rfl, HL1.out, Nat.le_trans (Nat.sub_le _ _) HM.out, HRS.out.keep (lit_steady _) ((Keep.of_below HBW.out).drew)⟩, ?_⟩
    exact ⟨HBW.out.os, HBW.out.tape, HBW.out.output, HBW.out.size, HBW.out.block⟩

end Go.Proofs.YtoeepfmmceilaaaGreatDoor
