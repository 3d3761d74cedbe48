/- laws.FnMessageWritten: the walk. -/
import Derived.Test.YtnlkgaobbobakaaWrite
import Derived.Test.YtnlkgaobbobakaaMsgs
set_option linter.unusedVariables false
set_option linter.unusedSimpArgs false
namespace Go.Proofs.Ytnlkgaobbobakaa
open Go.RowKit

theorem Blk.six_ {w : World} {g : Nat} {t : TypeId} {a b c d e f : Value} (h : Blk w g t #[a, b, c, d, e, f]) : w.cell? ⟨g, 0, none⟩ = some a ∧ w.cell? ⟨g, 1, none⟩ = some b ∧ w.cell? ⟨g, 2, none⟩ = some c ∧ w.cell? ⟨g, 3, none⟩ = some d ∧ w.cell? ⟨g, 4, none⟩ = some e ∧ w.cell? ⟨g, 5, none⟩ = some f :=
  ⟨h.cell 0, h.cell 1, h.cell 2, h.cell 3, h.cell 4, h.cell 5⟩
abbrev msgW (M : Msg) (AI AS AN AT AB : Option Addr) (cI cS cN cT cB : Nat) : Array Value := #[.int .i64 M.number, .slice AI M.ints.length cI, .slice AS M.strings.length cS, .slice AN M.names.length cN, .slice AT M.truths.length cT, .slice AB M.bytes.length cB]

set_option maxRecDepth 100000 in
set_option maxHeartbeats 1600000 in
theorem fnwritten_walk (w0 : World) (v0 : Value) (M : Msg) (hM : MsgS all_ w0 v0 M) (hu : ∀ n ∈ M.ints, n < 4294967296) (hnum : -9223372036854775808 ≤ M.number ∧ M.number ≤ 9223372036854775807) :
    Calls Try.prog 4 #[v0] w0 fun e w' => e = .returned (.bool true) ∧ Below w0.heap.size w0 w' := by
  have hM0 := hM
  obtain ⟨vI, vS, vN, vT, vB, rfl, ⟨AI, cI, rfl, i1, i2, hI⟩, ⟨AS, cS, rfl, s1, s2, hS⟩, ⟨AN, cN, rfl, n1, n2, hN⟩, ⟨AT, cT, rfl, t1, t2, hT⟩, ⟨AB, cB, rfl, b1, b2, hB⟩⟩ := hM
  have hk : Below w0.heap.size w0 (w0.alloc (.cells (msgW M AI AS AN AT AB cI cS cN cT cB) 28)) := (Below.refl _ _).alloc (Nat.le_refl _) _
  have hM1 := MsgS_steady.keep hM0 (Keep.of_below hk)
  have HBk := Lib.hid (Blk.new w0 28 (msgW M AI AS AN AT AB cI cS cN cT cB))
  have HF7 := Lib.hid (fits7 all_ _ M _ hM1)
  have HFit := Lib.hid (show ∀ w, Below w0.heap.size w0 w → Calls Try.prog 6 #[.agg (msgW M AI AS AN AT AB cI cS cN cT cB)] w (FitEnd w M) from fun w hb => fit_walk w _ M (MsgS_steady.keep hM0 (Keep.of_below hb)) hu hnum)
  have HMB := Lib.hid (show ∀ w, Below w0.heap.size w0 w → Fit M → Calls Try.prog 8 #[.agg (msgW M AI AS AN AT AB cI cS cN cT cB)] w (MbEnd w M) from fun w hb hfit => by
    have hform : letters ((shapeP M.number).getD []) ∧ ((shapeP M.number).getD []).length ≤ 100 := by
      cases hs : shapeP M.number with
      | none => exact ⟨fun c hc => by simp at hc, by simp⟩
      | some f => exact shape_small hs
    have hk := Keep.of_below (ok := all_) hb
    exact mb_walk w all_ AI AS AN AT AB cI cS cN cT cB M _ hfit rfl hform.2 hform.1 hnum ⟨i1, i2, hI.keep (lit_steady _) hk⟩ ⟨s1, s2, hS.keep (lit_steady _) hk⟩ ⟨n1, n2, hN.keep strs_steady hk⟩ ⟨t1, t2, hT.keep (lit_steady _) hk⟩ ⟨b1, b2, hB.keep (lit_steady _) hk⟩)
  have HWr := Lib.hid (show ∀ w, Below w0.heap.size w0 w → Fit M → (msgBytesP M).2 = true → M.number ≠ 52 → Calls Try.prog 12 #[.agg (msgW M AI AS AN AT AB cI cS cN cT cB)] w (WrEnd w (msgBytesP M).1) from fun w hb hfit hq h52 => by
    obtain ⟨x, form, vals, Le, e1, e2, e3, e4, e5⟩ := msgBytes_take hq
    rw [e5]
    exact write_walk w _ M (MsgS_steady.keep hM0 (Keep.of_below hb)) hfit x form vals Le e1 e2 (fun h => h52 (by rw [e1, h]; decide)) e3 e4)
  have HE := Lib.hid hk
  clear hk hM0 hM1 i1 i2 s1 s2 n1 n2 t1 t2 b1 b2 hI hS hN hT hB hu
  by_cases q1 : M.number = 52
  · have d1 : (M.number == 52) = true := by rw [q1]; decide
    clear q1
    go_enter Try.func4, Try.ntmps4
    go_wp2_with (first | (go_at_call 5; refine HF7.out.mono ?_; rintro e w2 ⟨⟨b, rfl⟩, hb2⟩; have HBk2 := Lib.hid (HBk.out.under hb2); have HE2 := Lib.hid (HE.out.trans (hb2.mono HE.out.size)); obtain ⟨c0, c1, c2, c3, c4, c5⟩ := HBk2.out.six_; clear hb2 HE; have HE := HE2; clear HE2; cases b) | (go_at_call 6; refine (HFit.out _ HE.out).mono ?_; rintro e w3 ⟨b, rfl, hq, hb3⟩; have HQF := Lib.hid hq; have HBk3 := Lib.hid (HBk2.out.under hb3); have HE3 := Lib.hid (HE.out.trans (hb3.mono HE.out.size)); obtain ⟨c0, c1, c2, c3, c4, c5⟩ := HBk3.out.six_; clear hb3 hq HE; have HE := HE3; clear HE3; cases b) | (go_at_call 7; refine (messages_walk _).mono ?_; rintro e w4 ⟨rfl, hb4⟩; have HE4 := Lib.hid (HE.out.trans (hb4.mono HE.out.size)); clear hb4 HE; have HE := HE4; clear HE4))
    all_goals (go_ret; first | exact ⟨rfl, HE.out⟩ | exact ⟨rfl, HE.out.drew⟩)
  have d1 : (M.number == 52) = false := by rw [beq_eq_false_iff_ne]; exact q1
  have HN52 := Lib.hid q1
  clear q1
  go_enter Try.func4, Try.ntmps4
  go_wp2_with (first | (go_at_call 5; refine HF7.out.mono ?_; rintro e w2 ⟨⟨b, rfl⟩, hb2⟩; have HBk2 := Lib.hid (HBk.out.under hb2); have HE2 := Lib.hid (HE.out.trans (hb2.mono HE.out.size)); obtain ⟨c0, c1, c2, c3, c4, c5⟩ := HBk2.out.six_; clear hb2 HE; have HE := HE2; clear HE2; cases b) | (go_at_call 6; refine (HFit.out _ HE.out).mono ?_; rintro e w3 ⟨b, rfl, hq, hb3⟩; have HQF := Lib.hid hq; have HBk3 := Lib.hid (HBk2.out.under hb3); have HE3 := Lib.hid (HE.out.trans (hb3.mono HE.out.size)); obtain ⟨c0, c1, c2, c3, c4, c5⟩ := HBk3.out.six_; clear hb3 hq HE; have HE := HE3; clear HE3; cases b) | (go_at_call 7; refine (messages_walk _).mono ?_; rintro e w4 ⟨rfl, hb4⟩; have HE4 := Lib.hid (HE.out.trans (hb4.mono HE.out.size)); clear hb4 HE; have HE := HE4; clear HE4))
  all_goals (first | (go_ret; exact ⟨rfl, HE.out⟩) | skip)
  clear c0 c1 c2 c3 c4 c5
  have hq2 : Fit M ∧ (msgBytesP M).2 = true := by simpa using HQF.out
  have HC := Lib.hid (HMB.out _ HE.out hq2.1)
  have HQ2 := Lib.hid hq2
  clear hq2 d1
  go_wp2_with fail
  refine HC.out.mono ?_
  rintro e w4 ⟨A, c, rfl, hown, hc, hm, hb⟩
  have HE4 := Lib.hid (HE.out.trans (hb.mono HE.out.size))
  have HBk4 := Lib.hid (HBk3.out.under hb)
  obtain ⟨c0, c1, c2, c3, c4, c5⟩ := HBk4.out.six_
  have HW4 := Lib.hid (HWr.out w4 HE4.out HQ2.out.1 HQ2.out.2 HN52.out)
  obtain ⟨l, hl⟩ : ∃ l, l = (msgBytesP M).1 := ⟨_, rfl⟩
  rw [← hl] at HW4 hown hc ⊢
  have HRW := Lib.hid (show RR (lit byteV) all_ w4 A l from own_RR hown (fun _ _ => trivial))
  clear hown hb hl HC hc hm
  go_wp2_with (first
    | (go_at_call 12; refine HW4.out.mono ?_; rintro e w5 ⟨A5, c5', rfl, hr5, hb5⟩; have HR5 := Lib.hid hr5; have HB5 := Lib.hid hb5; have HE5 := Lib.hid (HE4.out.trans (hb5.mono HE4.out.size)); clear hr5 hb5)
    | (go_at_call 7; refine (messages_walk _).mono ?_; rintro e w6 ⟨rfl, hb6⟩; have HE6 := Lib.hid (HE5.out.trans (hb6.mono HE5.out.size)); have cv1 := run_to_string (P := Try.prog) Try.underlying26 Try.underlying5 Try.underlying9 c5' (RR.keep HR5.out (lit_steady _) (Keep.of_below hb6)); have cv2 := run_to_string (P := Try.prog) Try.underlying26 Try.underlying5 Try.underlying9 c (RR.keep (RR.keep HRW.out (lit_steady _) (Keep.of_below HB5.out)) (lit_steady _) (Keep.of_below hb6)); clear hb6))
  go_ret
  exact ⟨rfl, HE6.out⟩

end Go.Proofs.Ytnlkgaobbobakaa
