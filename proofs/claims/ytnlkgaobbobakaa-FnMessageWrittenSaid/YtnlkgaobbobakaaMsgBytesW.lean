/- spec.MessageBytes: the walk. -/
import Derived.Test.YtnlkgaobbobakaaMsgBytes
set_option linter.unusedVariables false
set_option linter.unusedSimpArgs false
namespace Go.Proofs.Ytnlkgaobbobakaa
open Go.RowKit

set_option maxRecDepth 100000 in
set_option maxHeartbeats 1600000 in
theorem mb_walk (w0 : World) (ok : Nat → Prop) (AI AS AN AT AB : Option Addr) (cI cS cN cT cB : Nat) (M : Msg) (form : List UInt8) (hfit : Fit M) (hf : (shapeP M.number).getD [] = form) (hfl : form.length ≤ 100) (hl : ∀ c ∈ form, c = 110 ∨ c = 115 ∨ c = 108 ∨ c = 116 ∨ c = 99 ∨ c = 114)
    (hnum : -9223372036854775808 ≤ M.number ∧ M.number ≤ 9223372036854775807)
    (hI : M.ints.length ≤ cI ∧ cI ≤ 9223372036854775807 ∧ RR (lit u32V) ok w0 AI M.ints) (hS : M.strings.length ≤ cS ∧ cS ≤ 9223372036854775807 ∧ RR (lit strV) ok w0 AS M.strings)
    (hN : M.names.length ≤ cN ∧ cN ≤ 9223372036854775807 ∧ RR Strs ok w0 AN M.names) (hT : M.truths.length ≤ cT ∧ cT ≤ 9223372036854775807 ∧ RR (lit Value.bool) ok w0 AT M.truths)
    (hB : M.bytes.length ≤ cB ∧ cB ≤ 9223372036854775807 ∧ RR (lit byteV) ok w0 AB M.bytes) :
    Calls Try.prog 8 #[.agg #[.int .i64 M.number, .slice AI M.ints.length cI, .slice AS M.strings.length cS, .slice AN M.names.length cN, .slice AT M.truths.length cT, .slice AB M.bytes.length cB]] w0 (MbEnd w0 M) := by
  have HFit := Lib.hid hfit
  have HF := Lib.hid hf
  have HL := Lib.hid hl
  have HI := Lib.hid hI
  have HS := Lib.hid hS
  have HN := Lib.hid hN
  have HT := Lib.hid hT
  have HB := Lib.hid hB
  have hrange : ∀ W : World, (Instr.range 9 (strV form)).run Try.prog W = .ok (.pointer (some ⟨W.heap.size, 0, none⟩)) (W.iter ⟨form.toArray⟩ 0) := fun W => run_range_string W _ _ Try.underlying9
  obtain ⟨num, hnu⟩ : ∃ n, n = M.number := ⟨_, rfl⟩
  rw [← hnu] at hnum ⊢
  have HNu := Lib.hid hnu
  have HIS := Lib.hid (shape_any M.number)
  clear hfit hf hl hI hS hN hT hB hnu
  go_enter Try.func8, Try.ntmps8
  go_wp2_with fail
  rw [HNu.out]
  refine (HIS.out _).mono ?_
  rintro e w1 ⟨rfl, rfl⟩
  rw [HF.out]
  obtain ⟨is, his⟩ : ∃ b, b = (shapeP M.number).isSome := ⟨_, rfl⟩
  rw [← his, ← HNu.out]
  have HIs := Lib.hid his
  clear his
  go_wp2_with fail
  go_quiet (fail)
  go_wp2_with fail
  obtain ⟨fin, hfin⟩ : ∃ f, f = mbP form M [lowByte M.number] false := ⟨_, rfl⟩
  have HFin := Lib.hid hfin
  clear hfin
  obtain ⟨fin, hfin⟩ : ∃ f, f = mbP form M [lowByte M.number] false := ⟨_, rfl⟩
  have HFin := Lib.hid hfin
  clear hfin
  obtain ⟨fin, hfin⟩ : ∃ f, f = mbP form M [lowByte M.number] false := ⟨_, rfl⟩
  have HFin := Lib.hid hfin
  clear hfin
  obtain ⟨fin, hfin⟩ : ∃ f, f = mbP form M [lowByte M.number] false := ⟨_, rfl⟩
  have HFin := Lib.hid hfin
  clear hfin
  obtain ⟨fin, hfin⟩ : ∃ f, f = mbP form M [lowByte M.number] false := ⟨_, rfl⟩
  have HFin := Lib.hid hfin
  clear hfin
  obtain ⟨fin, hfin⟩ : ∃ f, f = mbP form M [lowByte M.number] false := ⟨_, rfl⟩
  have HFin := Lib.hid hfin
  clear hfin
  obtain ⟨fin, hfin⟩ : ∃ f, f = mbP form M [lowByte M.number] false := ⟨_, rfl⟩
  have HFin := Lib.hid hfin
  clear hfin
  go_loopg [6, 7, 8, 9, 10, 11] form.length (fun gk v6 v7 v8 v9 v10 v11 wr => ∃ (A6 A7 A8 A9 A10 : Option Addr) (c6 c7 c8 c9 c10 pos : Nat) (L : Msg) (out : List UInt8) (rest : Bool), v6 = .slice A6 out.length c6 ∧ v7 = .slice A7 L.ints.length c7 ∧ v8 = .slice A8 L.strings.length c8 ∧ v9 = .slice A9 L.names.length c9 ∧ v10 = .slice A10 L.truths.length c10 ∧ v11 = .bool rest ∧
    MbSt w0 (w0.heap.size + 1 + 1) ⟨form.toArray⟩ pos A6 A7 A8 A9 A10 c6 c7 c8 c9 c10 #[.int .i64 num, .slice AI M.ints.length cI, .slice AS M.strings.length cS, .slice AN M.names.length cN, .slice AT M.truths.length cT, .slice AB M.bytes.length cB] L out ok wr ∧ Hid (mbP (form.drop pos) L out rest = fin) ∧ Hid (pos + gk = form.length) ∧ Hid (out.length ≤ 1 + pos * 4000 ∧ Fit L ∧ L.bytes = M.bytes))
  case atStart =>
    have eb : (num % 256) = ((lowByte M.number).toNat : Int) := by
      unfold lowByte
      rw [ofNat_toNat, ← HNu.out]
      omega
    simp only [eb]
    exact ⟨_, _, _, _, _, _, _, _, _, _, 0, M, [lowByte M.number], false, rfl, rfl, rfl, rfl, rfl, rfl, MbSt.start w0 num AI AS AN AT AB cI cS cN cT cB M _ ⟨form.toArray⟩ ok HI.out HS.out HN.out HT.out _, HFin.out.symm, (show 0 + form.length = form.length by omega), (by simp), HFit.out, rfl⟩
  case round =>
    obtain ⟨A6, A7, A8, A9, A10, c6, c7, c8, c9, c10, pos, L, out, rest, rfl, rfl, rfl, rfl, rfl, rfl, hM, hrun, hpos, hfl⟩ := hrel
    have HM := Lib.hid hM
    by_cases hlt : pos < form.length
    · obtain ⟨ch, hch⟩ : ∃ ch, form[pos]? = some ch := ⟨_, List.getElem?_eq_getElem hlt⟩
      have hmem : ch ∈ form := List.mem_of_getElem? hch
      have hrun1 : mbP (ch :: form.drop (pos + 1)) L out rest = fin := by rw [← drop_cons_of hch]; exact hrun.out
      have HRun := Lib.hid hrun1
      have HPos := Lib.hid (show pos + 1 + (gk - 1) = form.length by have := hpos.out; omega)
      have HP := Lib.hid (show pos < 100 by omega)
      have HG := Lib.hid (show gk - 1 < gk by have := hpos.out; omega)
      have H1 := Lib.hid (hM.next (pos + 1))
      have hout : out.length ≤ 500000 := by have := hfl.out.1; omega
      have hz0 : (w0.heap.size + 1 + 1) < (wr.iterAt (w0.heap.size + 1 + 1) ⟨form.toArray⟩ (pos + 1)).heap.size := by rw [Lib.iterAt_size]; exact (Array.getElem?_eq_some_iff.1 hM.iter).1
      have hnx : ∀ ty, _ := fun ty => next_letter ty hM.iter hch (by rcases HL.out ch hmem with rfl | rfl | rfl | rfl | rfl | rfl <;> decide)
      have m5 : (wr.iterAt (w0.heap.size + 1 + 1) ⟨form.toArray⟩ (pos + 1)).cell? ⟨w0.heap.size, 5, none⟩ = some (.slice AB M.bytes.length cB) := H1.out.blk.cell 5
      clear hrun hrun1 hpos hM hlt
      generalize wr.iterAt (w0.heap.size + 1 + 1) ⟨form.toArray⟩ (pos + 1) = w1 at *
      obtain ⟨number, ints, strings, names, truths, bytes⟩ := L
      dsimp only at *
      have hch' := HL.out ch hmem
      clear hmem hch
      rcases hch' with rfl | rfl | rfl | rfl | rfl | rfl
      ·
        have hnx1 : ∀ ty, (Instr.next (.pointer (some ⟨w0.heap.size + 1 + 1, 0, none⟩)) true ty).run Try.prog wr = .ok (.tuple #[.bool true, .int .i64 (pos : Int), .int .i32 110]) w1 := hnx
        clear hnx
        rcases ints with _ | ⟨x, ints⟩
        ·
          have hnone : fin = none := HRun.out.symm
          have hmb : msgBytesP M = ([], false) := by unfold msgBytesP; rw [HF.out, ← HFin.out, hnone]
          have HMb := Lib.hid hmb
          clear hnone hmb
          go_wp2_with fail
          go_ret2
          unfold MbEnd
          rw [HMb.out]
          exact ⟨none, 0, rfl, World.ownsRow_nil _ _ _ _, Nat.le_refl _, by omega, H1.out.old⟩
        ·
          obtain ⟨ii, hii, _, hsz, _⟩ := info_parts info_u32
          obtain ⟨j1, j2, j3⟩ := H1.out.i7
          obtain ⟨A'', r2, q2⟩ := cut_tail (P := Try.prog) 22 48 Try.underlying22 hii hsz A7 c7 x ints j1
          have HT2 := Lib.hid (q2 _ _ _ j3)
          have j4 := RR.keep j3 (lit_steady _) (Keep.of_below H1.out.old)
          obtain ⟨ad, vx, rfl, _, hcell, hvx⟩ := j4 0 x rfl
          have HJ := Lib.hid (show ints.length ≤ c7 - 1 ∧ c7 - 1 ≤ 9223372036854775807 by simp only [List.length_cons] at j1; omega)
          obtain ⟨o', ho'⟩ : ∃ o, o = out ++ be4 x := ⟨_, rfl⟩
          have HO' := Lib.hid ho'
          have hvx : vx = .int .u32 (x : Int) := hvx
          subst hvx
          have hcell : w1.cell? ad = some (.int .u32 (x : Int)) := hcell
          have HXl := Lib.hid (show x < 4294967296 from hfl.out.2.1.u32 x (List.mem_cons_self ..))
          have HLen := Lib.hid (show (be4 x).length ≤ 4000 by simp [be4])
          clear ho' hii hsz j1 j2 j3 j4 q2
          go_wp2_with fail
          go_region_law (first | (go_simp; go_at_call 17; refine (news_of (number_new x HXl.out _)).mono ?_; rintro e w2 ⟨A2, c2, rfl, hown2, hc2, hc2', hb2⟩; have H2 := Lib.hid (H1.out.drew.below hb2); have HB2 := Lib.hid (own_byts (ok := all_) hown2 (fun _ _ => trivial))) | (go_simp; go_at_call 16; refine (join2 _ _ _ _ _ out (be4 x) o' HO' (Blk.new _ _ _) ((H2.out.alloc _).byts) (bytes_steady.keep HB2.out ((Keep.refl _ _).alloc _)) (by have := HLen.out; have := congrArg List.length HO'.out; rw [List.length_append] at this; omega)).mono ?_; rintro e w3 ⟨A3, c3, rfl, hown3, hc3, hc3', hb3⟩; have HE := Lib.hid ((H2.out.alloc _).written hb3 hown3)))
          all_goals
            go_wp2_with fail
            go_roundg (gk - 1)
            case measure => exact HG.out
            case rel =>
              have hf := hfl.out
              refine ⟨_, _, _, _, _, _, _, _, _, _, pos + 1, ⟨number, ints, strings, names, truths, bytes⟩, o', rest, rfl, rfl, rfl, rfl, rfl, rfl, { HE.out with i7 := ⟨HJ.out.1, HJ.out.2, HT2.out⟩ }, ?_, HPos.out, ?_, ?_, hf.2.2⟩
              · show _ = _
                rw [HO'.out]; exact HRun.out
              · have h1 := HO'.out
                have h2 := congrArg List.length h1
                rw [List.length_append] at h2
                have h3 := HLen.out
                omega
              · exact ⟨by have := hf.2.1.ints; simp at this ⊢; omega, fun n hn => hf.2.1.u32 n (List.mem_cons_of_mem _ hn), hf.2.1.strings, hf.2.1.str, hf.2.1.names, hf.2.1.name, hf.2.1.truths, hf.2.1.bytes⟩
      ·
        have hnx1 : ∀ ty, (Instr.next (.pointer (some ⟨w0.heap.size + 1 + 1, 0, none⟩)) true ty).run Try.prog wr = .ok (.tuple #[.bool true, .int .i64 (pos : Int), .int .i32 115]) w1 := hnx
        clear hnx
        rcases strings with _ | ⟨x, strings⟩
        ·
          have hnone : fin = none := HRun.out.symm
          have hmb : msgBytesP M = ([], false) := by unfold msgBytesP; rw [HF.out, ← HFin.out, hnone]
          have HMb := Lib.hid hmb
          clear hnone hmb
          go_wp2_with fail
          go_ret2
          unfold MbEnd
          rw [HMb.out]
          exact ⟨none, 0, rfl, World.ownsRow_nil _ _ _ _, Nat.le_refl _, by omega, H1.out.old⟩
        ·
          obtain ⟨ii, hii, _, hsz, _⟩ := info_parts info_str
          obtain ⟨j1, j2, j3⟩ := H1.out.i8
          obtain ⟨A'', r2, q2⟩ := cut_tail (P := Try.prog) 23 9 Try.underlying23 hii hsz A8 c8 x strings j1
          have HT2 := Lib.hid (q2 _ _ _ j3)
          have j4 := RR.keep j3 (lit_steady _) (Keep.of_below H1.out.old)
          obtain ⟨ad, vx, rfl, _, hcell, hvx⟩ := j4 0 x rfl
          have HJ := Lib.hid (show strings.length ≤ c8 - 1 ∧ c8 - 1 ≤ 9223372036854775807 by simp only [List.length_cons] at j1; omega)
          obtain ⟨o', ho'⟩ : ∃ o, o = out ++ strP x := ⟨_, rfl⟩
          have HO' := Lib.hid ho'
          have hvx : vx = .string ⟨x.toArray⟩ := hvx
          subst hvx
          have hcell : w1.cell? ad = some (.string ⟨x.toArray⟩) := hcell
          have HXl := Lib.hid (show x.length ≤ 70368744177664 by have := hfl.out.2.1.str x (List.mem_cons_self ..); omega)
          obtain ⟨cb, wb, hcv, hbb, hbs, hcb, hcb', hby⟩ := to_bytes (P := Try.prog) Try.underlying9 Try.underlying26 Try.underlying5 w1.drew x (by have := HXl.out; omega)
          have HB1 := Lib.hid (H1.out.drew.below hbb)
          have HBy := Lib.hid hby
          clear hbb hby
          have HLen := Lib.hid (show (strP x).length ≤ 4000 by have := hfl.out.2.1.str x (List.mem_cons_self ..); simp [strP, be4]; omega)
          clear ho' hii hsz j1 j2 j3 j4 q2
          go_wp2_with fail
          go_region_law (first | (go_simp; go_at_call 18; refine (news_of (string_new all_ _ cb x _ HXl.out hcb (HBy.out all_ trivial))).mono ?_; rintro e w2 ⟨A2, c2, rfl, hown2, hc2, hc2', hb2⟩; have H2 := Lib.hid (HB1.out.below hb2); have HB2 := Lib.hid (own_byts (ok := all_) hown2 (fun _ _ => trivial))) | (go_simp; go_at_call 16; refine (join2 _ _ _ _ _ out (strP x) o' HO' (Blk.new _ _ _) ((H2.out.alloc _).byts) (bytes_steady.keep HB2.out ((Keep.refl _ _).alloc _)) (by have := HLen.out; have := congrArg List.length HO'.out; rw [List.length_append] at this; omega)).mono ?_; rintro e w3 ⟨A3, c3, rfl, hown3, hc3, hc3', hb3⟩; have HE := Lib.hid ((H2.out.alloc _).written hb3 hown3)))
          all_goals
            go_wp2_with fail
            go_roundg (gk - 1)
            case measure => exact HG.out
            case rel =>
              have hf := hfl.out
              refine ⟨_, _, _, _, _, _, _, _, _, _, pos + 1, ⟨number, ints, strings, names, truths, bytes⟩, o', rest, rfl, rfl, rfl, rfl, rfl, rfl, { HE.out with i8 := ⟨HJ.out.1, HJ.out.2, HT2.out⟩ }, ?_, HPos.out, ?_, ?_, hf.2.2⟩
              · show _ = _
                rw [HO'.out]; exact HRun.out
              · have h1 := HO'.out
                have h2 := congrArg List.length h1
                rw [List.length_append] at h2
                have h3 := HLen.out
                omega
              · exact ⟨hf.2.1.ints, hf.2.1.u32, by have := hf.2.1.strings; simp at this ⊢; omega, fun n hn => hf.2.1.str n (List.mem_cons_of_mem _ hn), hf.2.1.names, hf.2.1.name, hf.2.1.truths, hf.2.1.bytes⟩
      ·
        have hnx1 : ∀ ty, (Instr.next (.pointer (some ⟨w0.heap.size + 1 + 1, 0, none⟩)) true ty).run Try.prog wr = .ok (.tuple #[.bool true, .int .i64 (pos : Int), .int .i32 108]) w1 := hnx
        clear hnx
        rcases names with _ | ⟨x, names⟩
        ·
          have hnone : fin = none := HRun.out.symm
          have hmb : msgBytesP M = ([], false) := by unfold msgBytesP; rw [HF.out, ← HFin.out, hnone]
          have HMb := Lib.hid hmb
          clear hnone hmb
          go_wp2_with fail
          go_ret2
          unfold MbEnd
          rw [HMb.out]
          exact ⟨none, 0, rfl, World.ownsRow_nil _ _ _ _, Nat.le_refl _, by omega, H1.out.old⟩
        ·
          obtain ⟨ii, hii, _, hsz, _⟩ := info_parts info_strs
          obtain ⟨j1, j2, j3⟩ := H1.out.i9
          obtain ⟨A'', r2, q2⟩ := cut_tail (P := Try.prog) 24 23 Try.underlying24 hii hsz A9 c9 x names j1
          have HT2 := Lib.hid (q2 _ _ _ j3)
          have j4 := RR.keep j3 (strs_steady) (Keep.of_below H1.out.old)
          obtain ⟨ad, vx, rfl, _, hcell, hvx⟩ := j4 0 x rfl
          have HJ := Lib.hid (show names.length ≤ c9 - 1 ∧ c9 - 1 ≤ 9223372036854775807 by simp only [List.length_cons] at j1; omega)
          obtain ⟨o', ho'⟩ : ∃ o, o = out ++ strP (commas x) := ⟨_, rfl⟩
          have HO' := Lib.hid ho'
          obtain ⟨Ax, cx, rfl, _, _, hxr⟩ := hvx
          have hcell : w1.cell? ad = some (.slice Ax x.length cx) := hcell
          have HXr := Lib.hid (RR.keep hxr (lit_steady _) ((Keep.refl _ w1).drew))
          have HXl := Lib.hid (show (∀ y ∈ x, y.length ≤ 1000) ∧ x.length ≤ 1000 by have h1 := hfl.out.2.1.name x (List.mem_cons_self ..); exact ⟨fun y hy => by have := (h1.2 y hy).1; omega, by omega⟩)
          have HXl2 := Lib.hid (show (commas x).length ≤ 70368744177664 by have h1 := hfl.out.2.1.name x (List.mem_cons_self ..); have h2 := commas_le x 60 (fun y hy => (h1.2 y hy).1); have h3 := h1.1; have h4 : x.length * 61 ≤ 610 := (by omega); omega)
          clear hxr
          have HLen := Lib.hid (show (strP (commas x)).length ≤ 4000 by have h1 := hfl.out.2.1.name x (List.mem_cons_self ..); have h2 := commas_le x 60 (fun y hy => (h1.2 y hy).1); have h3 := h1.1; have h4 : x.length * 61 ≤ 610 := (by omega); simp [strP, be4]; omega)
          clear ho' hii hsz j1 j2 j3 j4 q2
          go_wp2_with fail
          go_region_law (first | (go_simp; go_at_call 19; refine (news_of (names_new _ _ _ x _ HXl.out.1 HXl.out.2 HXr.out)).mono ?_; rintro e w2 ⟨A2, c2, rfl, hown2, hc2, hc2', hb2⟩; have H2 := Lib.hid (H1.out.drew.below hb2); have HO2 := Lib.hid hown2; have HC2 := Lib.hid hc2) | (go_simp; go_at_call 18; refine (news_of (string_new all_ _ _ (commas x) _ HXl2.out HC2.out (own_RR HO2.out (fun _ _ => trivial)))).mono ?_; rintro e w4 ⟨A4, c4, rfl, hown4, hc4, hc4', hb4⟩; have H4 := Lib.hid (H2.out.below hb4); have HB4 := Lib.hid (own_byts (ok := all_) hown4 (fun _ _ => trivial))) | (go_simp; go_at_call 16; refine (join2 _ _ _ _ _ out (strP (commas x)) o' HO' (Blk.new _ _ _) ((H4.out.alloc _).byts) (bytes_steady.keep HB4.out ((Keep.refl _ _).alloc _)) (by have := HLen.out; have := congrArg List.length HO'.out; rw [List.length_append] at this; omega)).mono ?_; rintro e w3 ⟨A3, c3, rfl, hown3, hc3, hc3', hb3⟩; have HE := Lib.hid ((H4.out.alloc _).written hb3 hown3)))
          all_goals
            go_wp2_with fail
            go_roundg (gk - 1)
            case measure => exact HG.out
            case rel =>
              have hf := hfl.out
              refine ⟨_, _, _, _, _, _, _, _, _, _, pos + 1, ⟨number, ints, strings, names, truths, bytes⟩, o', rest, rfl, rfl, rfl, rfl, rfl, rfl, { HE.out with i9 := ⟨HJ.out.1, HJ.out.2, HT2.out⟩ }, ?_, HPos.out, ?_, ?_, hf.2.2⟩
              · show _ = _
                rw [HO'.out]; exact HRun.out
              · have h1 := HO'.out
                have h2 := congrArg List.length h1
                rw [List.length_append] at h2
                have h3 := HLen.out
                omega
              · exact ⟨hf.2.1.ints, hf.2.1.u32, hf.2.1.strings, hf.2.1.str, by have := hf.2.1.names; simp at this ⊢; omega, fun n hn => hf.2.1.name n (List.mem_cons_of_mem _ hn), hf.2.1.truths, hf.2.1.bytes⟩
      ·
        have hnx1 : ∀ ty, (Instr.next (.pointer (some ⟨w0.heap.size + 1 + 1, 0, none⟩)) true ty).run Try.prog wr = .ok (.tuple #[.bool true, .int .i64 (pos : Int), .int .i32 116]) w1 := hnx
        clear hnx
        rcases truths with _ | ⟨x, truths⟩
        ·
          have hnone : fin = none := HRun.out.symm
          have hmb : msgBytesP M = ([], false) := by unfold msgBytesP; rw [HF.out, ← HFin.out, hnone]
          have HMb := Lib.hid hmb
          clear hnone hmb
          go_wp2_with fail
          go_ret2
          unfold MbEnd
          rw [HMb.out]
          exact ⟨none, 0, rfl, World.ownsRow_nil _ _ _ _, Nat.le_refl _, by omega, H1.out.old⟩
        ·
          obtain ⟨ii, hii, _, hsz, _⟩ := info_parts info_bool
          obtain ⟨j1, j2, j3⟩ := H1.out.i10
          obtain ⟨A'', r2, q2⟩ := cut_tail (P := Try.prog) 25 4 Try.underlying25 hii hsz A10 c10 x truths j1
          have HT2 := Lib.hid (q2 _ _ _ j3)
          have j4 := RR.keep j3 (lit_steady _) (Keep.of_below H1.out.old)
          obtain ⟨ad, vx, rfl, _, hcell, hvx⟩ := j4 0 x rfl
          have hvx : vx = .bool x := hvx
          subst hvx
          have hcell : w1.cell? ad = some (.bool x) := hcell
          have HJ := Lib.hid (show truths.length ≤ c10 - 1 ∧ c10 - 1 ≤ 9223372036854775807 by simp only [List.length_cons] at j1; omega)
          obtain ⟨o', ho'⟩ : ∃ o, o = out ++ [if x then (1 : UInt8) else 0] := ⟨_, rfl⟩
          have HO' := Lib.hid ho'
          have HLen := Lib.hid (show ([if x then (1 : UInt8) else 0]).length ≤ 4000 by simp)
          have HO1 := Lib.hid (show w1.ownsRow w0.heap.size 5 1 (.slice A6 out.length c6) (out.map byteV).length (out.map byteV) by rw [List.length_map]; exact H1.out.own)
          clear ho' hii hsz j1 j2 j3 j4 q2
          cases x
          ·
            go_wp2_with fail
            go_region_law ((refine step_push rfl _ _ 26 rfl w0.heap.size 5 (.int .u8 0) 1 Try.underlying26 info_u8 rfl (.slice A6 out.length c6) (out.map byteV) rfl (HO1.out.alloc _) _ (byteV 0) rfl (Blk.new _ _ _) rfl (by rw [List.length_map]; omega) (by rw [List.length_map]; omega) (Nat.le_trans H1.out.old.size (by simp)) ?_; intro A3 c3 w3 hown3 hg3 hat3))
            all_goals
              go_wp2_with fail
              go_roundg (gk - 1)
              case measure => exact HG.out
              case rel =>
                have hf := hfl.out
                have eo : o' = out ++ [0] := HO'.out
                have el : o'.length = out.length + 1 := by rw [eo]; simp
                have hown4 : w3.ownsRow w0.heap.size 5 1 (.slice A3 o'.length c3) o'.length (o'.map byteV) := by
                  rw [el, eo, List.map_append]
                  simpa using hown3
                have HE := (H1.out.drew.alloc _).pushed hg3 hown4
                refine ⟨_, _, _, _, _, _, _, _, _, _, pos + 1, ⟨number, ints, strings, names, truths, bytes⟩, o', rest, by rw [el], rfl, rfl, rfl, rfl, rfl, { HE with i10 := ⟨HJ.out.1, HJ.out.2, HT2.out⟩ }, ?_, HPos.out, ?_, ?_, hf.2.2⟩
                · show _ = _
                  rw [HO'.out]; exact HRun.out
                · have h1 := HO'.out
                  have h2 := congrArg List.length h1
                  rw [List.length_append] at h2
                  have h3 := HLen.out
                  omega
                · exact ⟨hf.2.1.ints, hf.2.1.u32, hf.2.1.strings, hf.2.1.str, hf.2.1.names, hf.2.1.name, by have := hf.2.1.truths; simp at this ⊢; omega, hf.2.1.bytes⟩
          ·
            go_wp2_with fail
            go_region_law ((refine step_push rfl _ _ 26 rfl w0.heap.size 5 (.int .u8 0) 1 Try.underlying26 info_u8 rfl (.slice A6 out.length c6) (out.map byteV) rfl (HO1.out.alloc _) _ (byteV 1) rfl (Blk.new _ _ _) rfl (by rw [List.length_map]; omega) (by rw [List.length_map]; omega) (Nat.le_trans H1.out.old.size (by simp)) ?_; intro A3 c3 w3 hown3 hg3 hat3))
            all_goals
              go_wp2_with fail
              go_roundg (gk - 1)
              case measure => exact HG.out
              case rel =>
                have hf := hfl.out
                have eo : o' = out ++ [1] := HO'.out
                have el : o'.length = out.length + 1 := by rw [eo]; simp
                have hown4 : w3.ownsRow w0.heap.size 5 1 (.slice A3 o'.length c3) o'.length (o'.map byteV) := by
                  rw [el, eo, List.map_append]
                  simpa using hown3
                have HE := (H1.out.drew.alloc _).pushed hg3 hown4
                refine ⟨_, _, _, _, _, _, _, _, _, _, pos + 1, ⟨number, ints, strings, names, truths, bytes⟩, o', rest, by rw [el], rfl, rfl, rfl, rfl, rfl, { HE with i10 := ⟨HJ.out.1, HJ.out.2, HT2.out⟩ }, ?_, HPos.out, ?_, ?_, hf.2.2⟩
                · show _ = _
                  rw [HO'.out]; exact HRun.out
                · have h1 := HO'.out
                  have h2 := congrArg List.length h1
                  rw [List.length_append] at h2
                  have h3 := HLen.out
                  omega
                · exact ⟨hf.2.1.ints, hf.2.1.u32, hf.2.1.strings, hf.2.1.str, hf.2.1.names, hf.2.1.name, by have := hf.2.1.truths; simp at this ⊢; omega, hf.2.1.bytes⟩
      ·
        have hnx1 : ∀ ty, (Instr.next (.pointer (some ⟨w0.heap.size + 1 + 1, 0, none⟩)) true ty).run Try.prog wr = .ok (.tuple #[.bool true, .int .i64 (pos : Int), .int .i32 99]) w1 := hnx
        clear hnx
        by_cases h16 : bytes.length = 16
        ·
          have h16' : ((M.bytes.length : Int) == 16) = true := by rw [← hfl.out.2.2, h16]; rfl
          have HRun := Lib.hid (show mbP (form.drop (pos + 1)) ⟨number, ints, strings, names, truths, bytes⟩ (out ++ bytes) true = fin by have := HRun.out; simp only [mbP, mbStep] at this; simpa [h16] using this)
          clear h16
          obtain ⟨o', ho'⟩ : ∃ o, o = out ++ bytes := ⟨_, rfl⟩
          have HO' := Lib.hid ho'
          have HLen := Lib.hid (show bytes.length ≤ 4000 by have h : bytes.length ≤ 500 := hfl.out.2.1.bytes; omega)
          have HBB := Lib.hid (show Byts ok w1 (.slice AB M.bytes.length cB) bytes by have h := HB.out; rw [hfl.out.2.2]; exact ⟨AB, cB, rfl, h.1, h.2.1, RR.keep h.2.2 (lit_steady _) (Keep.of_below H1.out.old)⟩)
          clear ho'
          go_wp2_with (go_at_call 16; refine (join2 _ _ _ _ _ out bytes o' HO' (Blk.new _ _ _) ((H1.out.alloc _).byts) (bytes_steady.mono (bytes_steady.keep HBB.out ((Keep.refl _ _).alloc _)) (fun _ _ _ => trivial)) (by have := HLen.out; have := congrArg List.length HO'.out; rw [List.length_append] at this; omega)).mono ?_; rintro e w3 ⟨A3, c3, rfl, hown3, hc3, hc3', hb3⟩; have HE := Lib.hid ((H1.out.alloc _).written hb3 hown3))
          go_roundg (gk - 1)
          case measure => exact HG.out
          case rel =>
            have hf := hfl.out
            refine ⟨_, _, _, _, _, _, _, _, _, _, pos + 1, ⟨number, ints, strings, names, truths, bytes⟩, o', true, rfl, rfl, rfl, rfl, rfl, rfl, HE.out, ?_, HPos.out, ?_, ?_, hf.2.2⟩
            · show _ = _
              rw [HO'.out]; exact HRun.out
            · have h1 := HO'.out
              have h2 := congrArg List.length h1
              rw [List.length_append] at h2
              have h3 := HLen.out
              omega
            · exact hf.2.1
        ·
          have h16' : ((M.bytes.length : Int) == 16) = false := by rw [← hfl.out.2.2]; simp; omega
          have HRun := Lib.hid (show none = fin by have := HRun.out; simp only [mbP, mbStep] at this; simpa [h16] using this)
          clear h16
          have hnone : fin = none := HRun.out.symm
          have hmb : msgBytesP M = ([], false) := by unfold msgBytesP; rw [HF.out, ← HFin.out, hnone]
          have HMb := Lib.hid hmb
          clear hnone hmb
          go_wp2_with fail
          go_ret2
          unfold MbEnd
          rw [HMb.out]
          exact ⟨none, 0, rfl, World.ownsRow_nil _ _ _ _, Nat.le_refl _, by omega, H1.out.old⟩
      ·
        have hnx1 : ∀ ty, (Instr.next (.pointer (some ⟨w0.heap.size + 1 + 1, 0, none⟩)) true ty).run Try.prog wr = .ok (.tuple #[.bool true, .int .i64 (pos : Int), .int .i32 114]) w1 := hnx
        clear hnx
        obtain ⟨o', ho'⟩ : ∃ o, o = out ++ bytes := ⟨_, rfl⟩
        have HO' := Lib.hid ho'
        have HLen := Lib.hid (show bytes.length ≤ 4000 by have h : bytes.length ≤ 500 := hfl.out.2.1.bytes; omega)
        have HBB := Lib.hid (show Byts ok w1 (.slice AB M.bytes.length cB) bytes by have h := HB.out; rw [hfl.out.2.2]; exact ⟨AB, cB, rfl, h.1, h.2.1, RR.keep h.2.2 (lit_steady _) (Keep.of_below H1.out.old)⟩)
        clear ho'
        go_wp2_with (go_at_call 16; refine (join2 _ _ _ _ _ out bytes o' HO' (Blk.new _ _ _) ((H1.out.alloc _).byts) (bytes_steady.mono (bytes_steady.keep HBB.out ((Keep.refl _ _).alloc _)) (fun _ _ _ => trivial)) (by have := HLen.out; have := congrArg List.length HO'.out; rw [List.length_append] at this; omega)).mono ?_; rintro e w3 ⟨A3, c3, rfl, hown3, hc3, hc3', hb3⟩; have HE := Lib.hid ((H1.out.alloc _).written hb3 hown3))
        go_roundg (gk - 1)
        case measure => exact HG.out
        case rel =>
          have hf := hfl.out
          refine ⟨_, _, _, _, _, _, _, _, _, _, pos + 1, ⟨number, ints, strings, names, truths, bytes⟩, o', true, rfl, rfl, rfl, rfl, rfl, rfl, HE.out, ?_, HPos.out, ?_, ?_, hf.2.2⟩
          · show _ = _
            rw [HO'.out]; exact HRun.out
          · have h1 := HO'.out
            have h2 := congrArg List.length h1
            rw [List.length_append] at h2
            have h3 := HLen.out
            omega
          · exact hf.2.1
    ·
      have hend : fin = some (L, out, rest) := by
        have := hrun.out; rw [List.drop_eq_nil_of_le (by omega)] at this; exact this.symm
      have hmb : msgBytesP M = (out, is && decide (leftOf L = 0) && (rest || decide (M.bytes.length = 0))) := by
        unfold msgBytesP; rw [HF.out, ← HFin.out, hend, ← HIs.out, ← hfl.out.2.2]
      have HMb := Lib.hid hmb
      have hnx : ∀ ty, (Instr.next (.pointer (some ⟨w0.heap.size + 1 + 1, 0, none⟩)) true ty).run Try.prog wr = .ok (.tuple #[.bool false]) wr := fun ty => next_over ty hM.iter (by omega)
      have m5 : wr.cell? ⟨w0.heap.size, 5, none⟩ = some (.slice AB M.bytes.length cB) := hM.blk.cell 5
      have hft := hfl.out.2.1
      have z1 := hft.ints
      have z2 := hft.strings
      have z3 := hft.names
      have z4 := hft.truths
      have fine : ∀ (b : Bool) (n : Nat), b = (is && decide (leftOf L = 0) && (rest || decide (M.bytes.length = 0))) → MbEnd w0 M (.returned (.tuple #[.slice A6 out.length c6, .bool b])) (wr.drewN n) := by
        intro b n hb
        unfold MbEnd
        rw [HMb.out, hb]
        dsimp only
        have h1 := (HM.out.drewN n)
        obtain ⟨A', c', hv, h3, h4⟩ := own_form h1.own
        injection hv with e1 e2 e3
        exact ⟨A6, c6, rfl, h1.own, by omega, by omega, h1.old⟩
      have Fine := Lib.hid fine
      clear hrun hend hmb hM hpos fine hft
      cases is with
      | false =>
        go_wp2_with fail
        go_quiet (fail)
        go_wp2
        go_ret2
        exact Fine.out _ _ (by simp)
      | true =>
        by_cases h0 : leftOf L = 0
        · have h0' : ((L.ints.length : Int) + (L.strings.length : Int) + (L.names.length : Int) + (L.truths.length : Int) == 0) = true := beq_iff_eq.2 (by unfold leftOf at h0; omega)
          have H0 := Lib.hid h0
          clear h0
          cases rest with
          | true =>
            go_wp2_with fail
            go_quiet (fail)
            go_wp2
            go_ret2
            exact Fine.out _ _ (by simp [H0.out])
          | false =>
            by_cases hb0 : M.bytes.length = 0
            · have hb0' : ((M.bytes.length : Int) == 0) = true := beq_iff_eq.2 (by omega)
              have HB0 := Lib.hid hb0
              clear hb0
              go_wp2_with fail
              go_quiet (fail)
              go_wp2
              go_ret2
              exact Fine.out _ _ (by simp [H0.out, HB0.out])
            · have hb0' : ((M.bytes.length : Int) == 0) = false := beq_eq_false_iff_ne.2 (by omega)
              have HB0 := Lib.hid hb0
              clear hb0
              go_wp2_with fail
              go_quiet (fail)
              go_wp2
              go_ret2
              exact Fine.out _ _ (by simp [H0.out, HB0.out])
        · have h0' : ((L.ints.length : Int) + (L.strings.length : Int) + (L.names.length : Int) + (L.truths.length : Int) == 0) = false := beq_eq_false_iff_ne.2 (by unfold leftOf at h0; omega)
          have H0 := Lib.hid h0
          clear h0
          go_wp2_with fail
          go_quiet (fail)
          go_wp2
          go_ret2
          exact Fine.out _ _ (by simp [H0.out])

end Go.Proofs.Ytnlkgaobbobakaa
