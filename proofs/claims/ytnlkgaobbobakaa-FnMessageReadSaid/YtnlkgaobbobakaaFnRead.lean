/- laws.FnMessageRead: the walk. -/
import Derived.Test.YtnlkgaobbobakaaLaw1
import Derived.Test.YtnlkgaobbobakaaMsgs
import Derived.Test.YtnlkgaobbobakaaReadE
import Derived.Test.YtnlkgaobbobakaaSame
set_option linter.unusedVariables false
set_option linter.unusedSimpArgs false
namespace Go.Proofs.Ytnlkgaobbobakaa
open Go.RowKit

/-- Turned places, two cells each. -/
def TurnsAt (w : World) (A : Option Addr) (l : List (Int × UInt8)) : Prop :=
  ∀ i p, l[i]? = some p → ∃ ad, A = some ad ∧ w.cell? (ad.add (i * 2)) = some (.int .i64 p.1) ∧ w.cell? (ad.add (i * 2 + 1)) = some (byteV p.2)
theorem TurnsAt.below {w w' : World} {A : Option Addr} {l : List (Int × UInt8)} (h : TurnsAt w A l) (hb : Below w.heap.size w w') : TurnsAt w' A l := fun i p hp => by
  obtain ⟨ad, e, h1, h2⟩ := h i p hp
  exact ⟨ad, e, (hb.cell (blk_lt_of_cell h1)).trans h1, (hb.cell (blk_lt_of_cell h2)).trans h2⟩
abbrev msgV (M : Msg) (AI AS AN AT AB : Option Addr) (cI cS cN cT cB : Nat) : Array Value := #[.int .i64 M.number, .slice AI M.ints.length cI, .slice AS M.strings.length cS, .slice AN M.names.length cN, .slice AT M.truths.length cT, .slice AB M.bytes.length cB]
theorem Blk.six {w : World} {g : Nat} {t : TypeId} {a b c d e f : Value} (h : Blk w g t #[a, b, c, d, e, f]) : w.cell? ⟨g, 0, none⟩ = some a ∧ w.cell? ⟨g, 1, none⟩ = some b ∧ w.cell? ⟨g, 2, none⟩ = some c ∧ w.cell? ⟨g, 3, none⟩ = some d ∧ w.cell? ⟨g, 4, none⟩ = some e ∧ w.cell? ⟨g, 5, none⟩ = some f :=
  ⟨h.cell 0, h.cell 1, h.cell 2, h.cell 3, h.cell 4, h.cell 5⟩
theorem Blk.below {w w' : World} {g : Nat} {t : TypeId} {cs : Array Value} (h : Blk w g t cs) (hb : Below w.heap.size w w') : Blk w' g t cs := (hb.block g h.lt).trans h

set_option maxRecDepth 100000 in
set_option maxHeartbeats 3200000 in
theorem fnread_walk (w0 : World) (v0 : Value) (M : Msg) (hM : MsgS all_ w0 v0 M) (hu : ∀ n ∈ M.ints, n < 4294967296) (hnum : -9223372036854775808 ≤ M.number ∧ M.number ≤ 9223372036854775807)
    (AU : Option Addr) (lt : List (Int × UInt8)) (cU : Nat) (hU : TurnsAt w0 AU lt) (cut : Int) (AM : Option Addr) (more : List UInt8) (cM : Nat) (hm : RR (lit byteV) all_ w0 AM more) (AO : Option Addr) (other : List UInt8) (cO : Nat) (ho : RR (lit byteV) all_ w0 AO other) :
    Calls Try.prog 3 #[v0, .slice AU lt.length cU, .int .i64 cut, .slice AM more.length cM, .slice AO other.length cO] w0 fun e w' => e = .returned (.bool true) ∧ Below w0.heap.size w0 w' := by
  have hM0 := hM
  obtain ⟨vI, vS, vN, vT, vB, rfl, ⟨AI, cI, rfl, i1, i2, hI⟩, ⟨AS, cS, rfl, s1, s2, hS⟩, ⟨AN, cN, rfl, n1, n2, hN⟩, ⟨AT, cT, rfl, t1, t2, hT⟩, ⟨AB, cB, rfl, b1, b2, hB⟩⟩ := hM
  have hk : Below w0.heap.size w0 (w0.alloc (.cells (msgV M AI AS AN AT AB cI cS cN cT cB) 28)) := (Below.refl _ _).alloc (Nat.le_refl _) _
  have hM1 := MsgS_steady.keep hM0 (Keep.of_below hk)
  have HBk := Lib.hid (Blk.new w0 28 (msgV M AI AS AN AT AB cI cS cN cT cB))
  have HF7 := Lib.hid (fits7 all_ _ M _ hM1)
  have HFit := Lib.hid (show ∀ w, Below w0.heap.size w0 w → Calls Try.prog 6 #[.agg (msgV M AI AS AN AT AB cI cS cN cT cB)] w (FitEnd w M) from fun w hb => fit_walk w _ M (MsgS_steady.keep hM0 (Keep.of_below hb)) hu hnum)
  have HMB := Lib.hid (show ∀ w, Below w0.heap.size w0 w → Fit M → Calls Try.prog 8 #[.agg (msgV M AI AS AN AT AB cI cS cN cT cB)] w (MbEnd w M) from fun w hb hfit => by
    have hform : letters ((shapeP M.number).getD []) ∧ ((shapeP M.number).getD []).length ≤ 100 := by
      cases hs : shapeP M.number with
      | none => exact ⟨fun c hc => by simp at hc, by simp⟩
      | some f => exact shape_small hs
    have hk := Keep.of_below (ok := all_) hb
    exact mb_walk w all_ AI AS AN AT AB cI cS cN cT cB M _ hfit rfl hform.2 hform.1 hnum ⟨i1, i2, hI.keep (lit_steady _) hk⟩ ⟨s1, s2, hS.keep (lit_steady _) hk⟩ ⟨n1, n2, hN.keep strs_steady hk⟩ ⟨t1, t2, hT.keep (lit_steady _) hk⟩ ⟨b1, b2, hB.keep (lit_steady _) hk⟩)
  have HE := Lib.hid hk
  have HU := Lib.hid hU
  have HMo := Lib.hid hm
  have HOt := Lib.hid ho
  clear hk hM0 hM1 i1 i2 s1 s2 n1 n2 t1 t2 b1 b2 hI hS hN hT hB hu hnum hU hm ho
  by_cases q1 : lt.length ≤ 2147483647
  rotate_left
  · have d1 : (2147483647 < (lt.length : Int)) = True := eq_true (by omega)
    clear q1
    go_enter Try.func3, Try.ntmps3
    go_wp2_with (go_at_call 5; refine HF7.out.mono ?_; rintro e w2 ⟨⟨b, rfl⟩, hb2⟩; have HBk2 := Lib.hid (HBk.out.below hb2); have HE2 := Lib.hid (HE.out.trans (hb2.mono HE.out.size)); obtain ⟨c0, c1, c2, c3, c4, c5⟩ := HBk2.out.six; clear hb2 HE; have HE := HE2; clear HE2; cases b)
    all_goals (go_ret; first | exact ⟨rfl, HE.out⟩ | exact ⟨rfl, HE.out.drew⟩)
  have d1 : (2147483647 < (lt.length : Int)) = False := eq_false (by omega)
  by_cases q2 : more.length ≤ 2147483647
  rotate_left
  · have d2 : (2147483647 < (more.length : Int)) = True := eq_true (by omega)
    clear q1 q2
    go_enter Try.func3, Try.ntmps3
    go_wp2_with (go_at_call 5; refine HF7.out.mono ?_; rintro e w2 ⟨⟨b, rfl⟩, hb2⟩; have HBk2 := Lib.hid (HBk.out.below hb2); have HE2 := Lib.hid (HE.out.trans (hb2.mono HE.out.size)); obtain ⟨c0, c1, c2, c3, c4, c5⟩ := HBk2.out.six; clear hb2 HE; have HE := HE2; clear HE2; cases b)
    all_goals (go_ret; first | exact ⟨rfl, HE.out⟩ | exact ⟨rfl, HE.out.drew⟩)
  have d2 : (2147483647 < (more.length : Int)) = False := eq_false (by omega)
  by_cases q3 : other.length ≤ 2147483647
  rotate_left
  · have d3 : (2147483647 < (other.length : Int)) = True := eq_true (by omega)
    clear q1 q2 q3
    go_enter Try.func3, Try.ntmps3
    go_wp2_with (go_at_call 5; refine HF7.out.mono ?_; rintro e w2 ⟨⟨b, rfl⟩, hb2⟩; have HBk2 := Lib.hid (HBk.out.below hb2); have HE2 := Lib.hid (HE.out.trans (hb2.mono HE.out.size)); obtain ⟨c0, c1, c2, c3, c4, c5⟩ := HBk2.out.six; clear hb2 HE; have HE := HE2; clear HE2; cases b)
    all_goals (go_ret; first | exact ⟨rfl, HE.out⟩ | exact ⟨rfl, HE.out.drew⟩)
  have d3 : (2147483647 < (other.length : Int)) = False := eq_false (by omega)
  by_cases q4 : lt.length ≤ 10
  rotate_left
  · have d4 : (10 < (lt.length : Int)) = True := eq_true (by omega)
    clear q1 q2 q3 q4
    go_enter Try.func3, Try.ntmps3
    go_wp2_with (first | (go_at_call 5; refine HF7.out.mono ?_; rintro e w2 ⟨⟨b, rfl⟩, hb2⟩; have HBk2 := Lib.hid (HBk.out.below hb2); have HE2 := Lib.hid (HE.out.trans (hb2.mono HE.out.size)); obtain ⟨c0, c1, c2, c3, c4, c5⟩ := HBk2.out.six; clear hb2 HE; have HE := HE2; clear HE2; cases b) | (go_at_call 6; refine (HFit.out _ HE.out).mono ?_; rintro e w3 ⟨b, rfl, hq, hb3⟩; have HQF := Lib.hid hq; have HBk3 := Lib.hid (HBk2.out.below hb3); have HE3 := Lib.hid (HE.out.trans (hb3.mono HE.out.size)); obtain ⟨c0, c1, c2, c3, c4, c5⟩ := HBk3.out.six; clear hb3 hq HE; have HE := HE3; clear HE3; cases b) | (go_at_call 7; refine (messages_walk _).mono ?_; rintro e w4 ⟨rfl, hb4⟩; have HE4 := Lib.hid (HE.out.trans (hb4.mono HE.out.size)); clear hb4 HE; have HE := HE4; clear HE4))
    all_goals (go_ret; first | exact ⟨rfl, HE.out⟩ | exact ⟨rfl, HE.out.drew⟩)
  have d4 : (10 < (lt.length : Int)) = False := eq_false (by omega)
  by_cases q5 : 0 ≤ cut
  rotate_left
  · have d5 : (cut < 0) = True := eq_true (by omega)
    clear q1 q2 q3 q4 q5
    go_enter Try.func3, Try.ntmps3
    go_wp2_with (first | (go_at_call 5; refine HF7.out.mono ?_; rintro e w2 ⟨⟨b, rfl⟩, hb2⟩; have HBk2 := Lib.hid (HBk.out.below hb2); have HE2 := Lib.hid (HE.out.trans (hb2.mono HE.out.size)); obtain ⟨c0, c1, c2, c3, c4, c5⟩ := HBk2.out.six; clear hb2 HE; have HE := HE2; clear HE2; cases b) | (go_at_call 6; refine (HFit.out _ HE.out).mono ?_; rintro e w3 ⟨b, rfl, hq, hb3⟩; have HQF := Lib.hid hq; have HBk3 := Lib.hid (HBk2.out.below hb3); have HE3 := Lib.hid (HE.out.trans (hb3.mono HE.out.size)); obtain ⟨c0, c1, c2, c3, c4, c5⟩ := HBk3.out.six; clear hb3 hq HE; have HE := HE3; clear HE3; cases b) | (go_at_call 7; refine (messages_walk _).mono ?_; rintro e w4 ⟨rfl, hb4⟩; have HE4 := Lib.hid (HE.out.trans (hb4.mono HE.out.size)); clear hb4 HE; have HE := HE4; clear HE4))
    all_goals (go_ret; first | exact ⟨rfl, HE.out⟩ | exact ⟨rfl, HE.out.drew⟩)
  obtain ⟨k, rfl⟩ : ∃ k : Nat, cut = (k : Int) := ⟨cut.toNat, by omega⟩
  have d5 : ((k : Int) < 0) = False := eq_false (by omega)
  by_cases q6 : more.length ≤ 50
  rotate_left
  · have d6 : (50 < (more.length : Int)) = True := eq_true (by omega)
    clear q1 q2 q3 q4 q5 q6
    go_enter Try.func3, Try.ntmps3
    go_wp2_with (first | (go_at_call 5; refine HF7.out.mono ?_; rintro e w2 ⟨⟨b, rfl⟩, hb2⟩; have HBk2 := Lib.hid (HBk.out.below hb2); have HE2 := Lib.hid (HE.out.trans (hb2.mono HE.out.size)); obtain ⟨c0, c1, c2, c3, c4, c5⟩ := HBk2.out.six; clear hb2 HE; have HE := HE2; clear HE2; cases b) | (go_at_call 6; refine (HFit.out _ HE.out).mono ?_; rintro e w3 ⟨b, rfl, hq, hb3⟩; have HQF := Lib.hid hq; have HBk3 := Lib.hid (HBk2.out.below hb3); have HE3 := Lib.hid (HE.out.trans (hb3.mono HE.out.size)); obtain ⟨c0, c1, c2, c3, c4, c5⟩ := HBk3.out.six; clear hb3 hq HE; have HE := HE3; clear HE3; cases b) | (go_at_call 7; refine (messages_walk _).mono ?_; rintro e w4 ⟨rfl, hb4⟩; have HE4 := Lib.hid (HE.out.trans (hb4.mono HE.out.size)); clear hb4 HE; have HE := HE4; clear HE4))
    all_goals (go_ret; first | exact ⟨rfl, HE.out⟩ | exact ⟨rfl, HE.out.drew⟩)
  have d6 : (50 < (more.length : Int)) = False := eq_false (by omega)
  by_cases q7 : other.length ≤ 2000
  rotate_left
  · have d7 : (2000 < (other.length : Int)) = True := eq_true (by omega)
    clear q1 q2 q3 q4 q5 q6 q7
    go_enter Try.func3, Try.ntmps3
    go_wp2_with (first | (go_at_call 5; refine HF7.out.mono ?_; rintro e w2 ⟨⟨b, rfl⟩, hb2⟩; have HBk2 := Lib.hid (HBk.out.below hb2); have HE2 := Lib.hid (HE.out.trans (hb2.mono HE.out.size)); obtain ⟨c0, c1, c2, c3, c4, c5⟩ := HBk2.out.six; clear hb2 HE; have HE := HE2; clear HE2; cases b) | (go_at_call 6; refine (HFit.out _ HE.out).mono ?_; rintro e w3 ⟨b, rfl, hq, hb3⟩; have HQF := Lib.hid hq; have HBk3 := Lib.hid (HBk2.out.below hb3); have HE3 := Lib.hid (HE.out.trans (hb3.mono HE.out.size)); obtain ⟨c0, c1, c2, c3, c4, c5⟩ := HBk3.out.six; clear hb3 hq HE; have HE := HE3; clear HE3; cases b) | (go_at_call 7; refine (messages_walk _).mono ?_; rintro e w4 ⟨rfl, hb4⟩; have HE4 := Lib.hid (HE.out.trans (hb4.mono HE.out.size)); clear hb4 HE; have HE := HE4; clear HE4))
    all_goals (go_ret; first | exact ⟨rfl, HE.out⟩ | exact ⟨rfl, HE.out.drew⟩)
  have d7 : (2000 < (other.length : Int)) = False := eq_false (by omega)
  have HQ4 := Lib.hid q4
  have HQ6 := Lib.hid q6
  have HQ7 := Lib.hid q7
  clear q1 q2 q3 q4 q5 q6 q7
  go_enter Try.func3, Try.ntmps3
  go_wp2_with (first | (go_at_call 5; refine HF7.out.mono ?_; rintro e w2 ⟨⟨b, rfl⟩, hb2⟩; have HBk2 := Lib.hid (HBk.out.below hb2); have HE2 := Lib.hid (HE.out.trans (hb2.mono HE.out.size)); obtain ⟨c0, c1, c2, c3, c4, c5⟩ := HBk2.out.six; clear hb2 HE; have HE := HE2; clear HE2; cases b) | (go_at_call 6; refine (HFit.out _ HE.out).mono ?_; rintro e w3 ⟨b, rfl, hq, hb3⟩; have HQF := Lib.hid hq; have HBk3 := Lib.hid (HBk2.out.below hb3); have HE3 := Lib.hid (HE.out.trans (hb3.mono HE.out.size)); obtain ⟨c0, c1, c2, c3, c4, c5⟩ := HBk3.out.six; clear hb3 hq HE; have HE := HE3; clear HE3; cases b) | (go_at_call 7; refine (messages_walk _).mono ?_; rintro e w4 ⟨rfl, hb4⟩; have HE4 := Lib.hid (HE.out.trans (hb4.mono HE.out.size)); clear hb4 HE; have HE := HE4; clear HE4))
  all_goals (first | (go_ret; exact ⟨rfl, HE.out⟩) | skip)
  clear c0 c1 c2 c3 c4 c5
  have hfit : Fit M := (show Fit M ∧ _ by simpa using HQF.out).1
  have HLB := Lib.hid (msgBytes_len hfit)
  have HC := Lib.hid (HMB.out _ HE.out hfit)
  have HQQ := Lib.hid (show (msgBytesP M).2 = true from (show _ ∧ (msgBytesP M).2 = true by simpa using HQF.out).2)
  clear hfit HFit HF7 HMB HQF HBk3 HBk2 HBk d1 d2 d3 d4 d5 d6 d7
  by_cases q8 : other = []
  · subst q8
    go_wp2_with fail
    refine HC.out.mono ?_
    rintro e w4 ⟨A, c, rfl, hown, hc, hm, hb⟩
    generalize (msgBytesP M).1 = l at *
    have HOW := Lib.hid (own_base hown HE.out.size)
    have HE4 := Lib.hid (HE.out.trans (hb.mono HE.out.size))
    clear hown hb HE HC HQQ
    have HE := HE4
    clear HE4
    obtain ⟨i0, hi0, _, hsz, _⟩ := info_parts info_u8
    have hlc : l.length ≤ c := hc
    obtain ⟨kk, hkk⟩ : ∃ kk, kk = min k l.length := ⟨_, rfl⟩
    have q9 : kk ≤ l.length := by omega
    have d9 : (if (l.length : Int) < (k : Int) then (l.length : Int) else (k : Int)) = (kk : Int) := by split <;> omega
    have d9b : (if l.length < k then (l.length : Int) else (k : Int)) = (kk : Int) := by split <;> omega
    clear hkk
    obtain ⟨lq, hlq⟩ : ∃ lq, lq = l.take (l.length - kk) := ⟨_, rfl⟩
    have hqlen : lq.length = l.length - kk := by rw [hlq, List.length_take]; omega
    have hsl : ∀ W : World, (Instr.slice 26 (.slice A l.length c) none (some (.int .i64 ((l.length : Int) - (kk : Int)))) none).run Try.prog W = .ok (.slice A lq.length c) W := fun W => by
      rw [show ((l.length : Int) - (kk : Int)) = ((lq.length : Nat) : Int) by omega]
      exact slice_to 26 5 Try.underlying26 hi0 hsz A l.length c lq.length (by omega) hlc W
    have HOC := Lib.hid (show w4.ownsRow w0.heap.size 5 1 (.slice A lq.length c) (lq.map byteV).length (lq.map byteV) by
      have h1 := own_cut HOW.out (k := lq.length) (by omega)
      rw [List.length_map, show lq.map byteV = (l.map byteV).take lq.length by rw [hqlen, hlq, List.map_take]]
      exact h1)
    have HQL := Lib.hid (show lq.length ≤ 100001 by have := HLB.out; omega)
    have hl1 : l.length ≤ 100001 := HLB.out
    clear hi0 hsz hlc hlq hqlen HOW
    go_wp2_with (at_builtin; refine wpList_append_RR rfl _ _ _ rfl w0.heap.size 5 (.int .u8 0) 1 Try.underlying26 info_u8 rfl (.slice A lq.length c) (lq.map byteV) rfl HOC.out byteV byteV_one AM cM more rfl (RR.keep HMo.out (lit_steady _) (Keep.of_below HE.out)) (by have := HQL.out; have := HQ6.out; simp; omega) (by have := HQL.out; have := HQ6.out; simp; omega) HE.out.size ?_; intro A2 c2 w5 hown2 hg2 hat2)
    clear d9 d9b q9 hl1 hsl
    have HE5 := Lib.hid (HE.out.grown hg2 HE.out.size (fun q hq => (HOC.out.lt q hq).1))
    obtain ⟨lin, hlin⟩ : ∃ x, x = lq ++ more := ⟨_, rfl⟩
    have hll : lq.length + more.length = lin.length := by rw [hlin]; simp
    have HOW2 := Lib.hid (show w5.ownsRow w0.heap.size 5 1 (.slice A2 lin.length c2) lin.length (lin.map byteV) by simpa [hlin] using hown2)
    have hlinl : lin.length ≤ 200000 := by have := HQL.out; have := HQ6.out; omega
    rw [hll]
    clear hll hlin hown2 hg2 hat2 HOC HE
    have HE := HE5
    clear HE5
    have HLN := Lib.hid hlinl
    go_loopg [84] lt.length (fun gk v84 wr => ∃ (i : Nat) (ls : List UInt8), v84 = .int .i64 (i : Int) ∧ i ≤ lt.length ∧ Hid (i + gk = lt.length) ∧ Hid (ls.length = lin.length) ∧ Hid (wr.ownsRow w0.heap.size 5 1 (.slice A2 lin.length c2) lin.length (ls.map byteV)) ∧ Hid (Below w0.heap.size w0 wr))
    case atStart => exact ⟨0, lin, rfl, by omega, by simp [Hid], rfl, HOW2, HE⟩
    case round =>
      clear HE HOW2
      obtain ⟨i, ls, rfl, hi, hgk, hls, HOW, HE⟩ := hrel
      by_cases hlt : i < lt.length
      · have hq4 := HQ4.out
        obtain ⟨p, hp⟩ : ∃ p, lt[i]? = some p := ⟨_, List.getElem?_eq_getElem hlt⟩
        obtain ⟨ad, rfl, e1, e2⟩ := (HU.out.below HE.out) i p hp
        have hlta := blk_lt_of_cell e1
        have e3 : wr.cell? ⟨(ad.add (i * 2)).block, (ad.add (i * 2)).off + 1, none⟩ = some (.int .u8 (p.2.toNat : Int)) := by rw [cell_next (spot_none e1), add_add_]; exact e2
        obtain ⟨at_, to_⟩ := p
        simp only at e1 e3
        clear hp e2
        by_cases r1 : at_ < 0
        · have r1' : (at_ < 0) = True := eq_true r1
          clear r1
          go_wp2_with (go_at_call 7; refine (messages_walk _).mono ?_; rintro e w4 ⟨rfl, hb4⟩; have HE4 := Lib.hid ((HE.out.alloc HE.out.size _).trans (hb4.mono (Nat.le_trans HE.out.size (by simp)))); clear hb4 HE; have HE := HE4; clear HE4)
          all_goals (go_ret; first | exact ⟨rfl, HE.out⟩ | exact ⟨rfl, HE.out.drew⟩)
        have r1' : (at_ < 0) = False := eq_false r1
        by_cases r2 : (lin.length : Int) ≤ at_
        · have r2' : ((lin.length : Int) ≤ at_) = True := eq_true r2
          clear r1 r2
          go_wp2_with (go_at_call 7; refine (messages_walk _).mono ?_; rintro e w4 ⟨rfl, hb4⟩; have HE4 := Lib.hid ((HE.out.alloc HE.out.size _).trans (hb4.mono (Nat.le_trans HE.out.size (by simp)))); clear hb4 HE; have HE := HE4; clear HE4)
          all_goals (go_ret; first | exact ⟨rfl, HE.out⟩ | exact ⟨rfl, HE.out.drew⟩)
        have r2' : ((lin.length : Int) ≤ at_) = False := eq_false r2
        obtain ⟨j, rfl⟩ : ∃ j : Nat, at_ = (j : Int) := ⟨at_.toNat, by omega⟩
        have hj : j < lin.length := by omega
        clear r1 r2
        obtain ⟨g, hg0⟩ : ∃ g, A2 = some ⟨g, 0, none⟩ := by
          obtain ⟨g, cap, hv, _⟩ := HOW.out.form (by omega)
          injection hv with hv
          exact ⟨g, hv⟩
        subst hg0
        have hgl : g < wr.heap.size := (HOW.out.lt g rfl).2
        have HGW := Lib.hid (HOW.out.lt g rfl).1
        obtain ⟨old, hold⟩ : ∃ old, wr.cell? ⟨g, j, none⟩ = some old := own_cell_at HOW.out hj
        have hfz := own_unfrozen HOW.out j
        go_wp2_with fail
        go_roundg (gk - 1)
        case measure => have := hgk.out; omega
        case rel =>
          have hg := hgk.out
          have hg1 : i + 1 + (gk - 1) = lt.length := by omega
          have hl1 : (ls.set j to_).length = lin.length := by rw [List.length_set]; exact hls.out
          have hB := HE.out.setCell (p := ⟨g, j, none⟩) HGW.out (byteV to_)
          have hO := own_set HOW.out hj (byteV to_)
          rw [set_map_byte] at hO
          exact ⟨i + 1, ls.set j to_, by go_num, by omega, hg1, hl1, hO.alloc _, hB.alloc hB.size _⟩
      · have hie : i = lt.length := by omega
        subst hie
        clear hi hgk hlt
        go_wp2_with fail
        have HLN2 := Lib.hid (show ls.length ≤ 200000 by rw [hls.out]; exact HLN.out)
        rw [← hls.out]
        have HOW2 := Lib.hid (show wr.ownsRow w0.heap.size 5 1 (.slice A2 ls.length c2) ls.length (ls.map byteV) by rw [hls.out]; exact HOW.out)
        have hin : RR (lit byteV) (fun b => b < wr.heap.size) wr A2 ls := own_RR HOW2.out (fun b hb => (HOW2.out.lt b hb).2)
        have hc2 : ls.length ≤ c2 ∧ c2 ≤ 9223372036854775807 := by
          obtain ⟨A', c', hv, h1, h2⟩ := own_form HOW2.out
          injection hv with e1 e2 e3
          omega
        have HIN := Lib.hid hin
        clear hls HOW HLN hin
        have hrd : Calls Try.prog 9 #[.slice A2 ls.length c2] wr (ReadEnd wr ls) := by
          cases hls : ls with
          | nil => exact read_empty wr A2 c2
          | cons x r =>
            have h1 := HIN.out
            have h2 := HLN2.out
            rw [hls] at h1 h2 hc2
            simp only [List.length_cons] at h2
            cases hf : shapeP x.toNat with
            | none => exact read_open wr A2 c2 x r hf (h1.mono (lit_steady _) (fun _ _ _ => trivial)) (by omega)
            | some form => exact read_walk wr A2 c2 x r form hf (shape_small hf).1 (shape_small hf).2 (by omega) hc2.1 hc2.2 h1
        have him : (readP ls).2 ≠ 2 → ∃ r : Option Msg, ((readP ls).2 = 0 → r = some (readP ls).1) ∧ ((readP ls).2 = 1 → r = none) ∧ ∀ W : World, Below wr.heap.size wr W → Calls Try.prog 10 #[.slice A2 ls.length c2] W (ImEnd W r) := fun hne => by
          cases hls : ls with
          | nil => exact ⟨none, fun h => by (rw [← hls] at h; rw [hls] at h; exact absurd h (by decide)), fun _ => rfl, fun W hb => im_empty W A2 c2⟩
          | cons x r =>
            have h1 := HIN.out
            have h2 := HLN2.out
            rw [hls] at h1 h2 hne
            simp only [List.length_cons] at h2
            cases hf : shapeP x.toNat with
            | none => exact absurd (show (readP (x :: r)).2 = 2 by unfold readP; simp only [hf]) hne
            | some form =>
              have hlaw := read_law (xs := r) hf (shape_small hf).1 (shape_letters_one hf)
              obtain ⟨L, g1, g2, g3, g4⟩ := zz_any x r form (by omega) hf (hlaw.2.2 hne)
              exact ⟨imP x r form, hlaw.1, hlaw.2.1, fun W hb => im_walk W A2 c2 x r form L g1 g2 g3 g4 (by omega) (RR.mono (RR.keep h1 (lit_steady _) (Keep.of_below hb)) (lit_steady _) (fun _ _ _ => trivial))⟩
        have HIM := Lib.hid him
        have HRD := Lib.hid hrd
        clear hrd him hc2 HIN
        refine HRD.out.mono ?_
        rintro e w6 ⟨v6, rfl, hv6, hb6⟩
        generalize hst : readP ls = rp at *
        obtain ⟨RM, st⟩ := rp
        obtain ⟨vI, vS, vN, vT, vB, rfl, ⟨DI, dI, rfl, _, _, _⟩, ⟨DS, dS, rfl, _, _, _⟩, ⟨DN, dN, rfl, _, _, _⟩, ⟨DT, dT, rfl, _, _, _⟩, ⟨DB, dB, rfl, _, _, _⟩⟩ := id hv6
        have HS6 := Lib.hid hv6
        have HST := Lib.hid hst
        have HE6 := Lib.hid (HE.out.trans (hb6.mono HE.out.size))
        have HB6 := Lib.hid hb6
        simp only at *
        clear hv6 hst hb6 HE
        have HE := HE6
        clear HE6
        have hst2 : st ≤ 2 := by have := readP_st ls; rw [HST.out] at this; exact this
        obtain rfl | rfl | rfl : st = 2 ∨ st = 1 ∨ st = 0 := by omega
        · go_wp2_with (go_at_call 7; refine (messages_walk _).mono ?_; rintro e w7 ⟨rfl, hb7⟩; have HE7 := Lib.hid ((HE.out.alloc HE.out.size _).trans (hb7.mono (Nat.le_trans HE.out.size (by simp)))); clear hb7)
          go_ret
          first | exact ⟨rfl, HE7.out⟩ | exact ⟨rfl, HE7.out.drew⟩
        · clear hst2
          obtain ⟨r, _, hr, hcall⟩ := HIM.out (by decide)
          obtain rfl := hr rfl
          have hbW : Below wr.heap.size wr (w6.alloc (.cells #[.int .i64 RM.number, .slice DI RM.ints.length dI, .slice DS RM.strings.length dS, .slice DN RM.names.length dN, .slice DT RM.truths.length dT, .slice DB RM.bytes.length dB] 28)) := HB6.out.alloc HB6.out.size _
          have HC7 := Lib.hid (hcall _ hbW)
          have HEW := Lib.hid (HE.out.alloc HE.out.size (.cells #[.int .i64 RM.number, .slice DI RM.ints.length dI, .slice DS RM.strings.length dS, .slice DN RM.names.length dN, .slice DT RM.truths.length dT, .slice DB RM.bytes.length dB] 28))
          clear hcall hbW HIM HRD hr
          go_wp2_with fail
          refine HC7.out.mono ?_
          rintro e w7 ⟨hb7, rfl⟩
          have HE7 := Lib.hid (HEW.out.trans (hb7.mono HEW.out.size))
          clear hb7
          go_wp2_with (go_at_call 7; refine (messages_walk _).mono ?_; rintro e w8 ⟨rfl, hb8⟩; have HE8 := Lib.hid ((HE7.out.alloc HE7.out.size _).trans (hb8.mono (Nat.le_trans HE7.out.size (by simp)))); clear hb8)
          go_ret
          first | exact ⟨rfl, HE8.out⟩ | exact ⟨rfl, HE8.out.drew⟩
        · clear hst2
          obtain ⟨r, hr, _, hcall⟩ := HIM.out (by decide)
          obtain rfl := hr rfl
          have hbW : Below wr.heap.size wr (w6.alloc (.cells #[.int .i64 RM.number, .slice DI RM.ints.length dI, .slice DS RM.strings.length dS, .slice DN RM.names.length dN, .slice DT RM.truths.length dT, .slice DB RM.bytes.length dB] 28)) := HB6.out.alloc HB6.out.size _
          have HC7 := Lib.hid (hcall _ hbW)
          have HEW := Lib.hid (HE.out.alloc HE.out.size (.cells #[.int .i64 RM.number, .slice DI RM.ints.length dI, .slice DS RM.strings.length dS, .slice DN RM.names.length dN, .slice DT RM.truths.length dT, .slice DB RM.bytes.length dB] 28))
          clear hcall hbW HIM HRD hr
          go_wp2_with fail
          refine HC7.out.mono ?_
          rintro e w7 ⟨hb7, v7, rfl, hv7⟩
          obtain ⟨vI, vS, vN, vT, vB, rfl, ⟨EI, eI, rfl, _, _, _⟩, ⟨ES, eS, rfl, _, _, _⟩, ⟨EN, eN, rfl, _, _, _⟩, ⟨ET, eT, rfl, _, _, _⟩, ⟨EB, eB, rfl, _, _, _⟩⟩ := id hv7
          have HE7 := Lib.hid (HEW.out.trans (hb7.mono HEW.out.size))
          have HV7 := Lib.hid hv7
          have HW7 := Lib.hid (MsgS_steady.keep HS6.out ((Keep.refl _ w6).alloc (.cells #[.int .i64 RM.number, .slice DI RM.ints.length dI, .slice DS RM.strings.length dS, .slice DN RM.names.length dN, .slice DT RM.truths.length dT, .slice DB RM.bytes.length dB] 28) |>.trans (Keep.of_below hb7)))
          have HB15 := Lib.hid ((Blk.new w6 28 #[.int .i64 RM.number, .slice DI RM.ints.length dI, .slice DS RM.strings.length dS, .slice DN RM.names.length dN, .slice DT RM.truths.length dT, .slice DB RM.bytes.length dB]).below hb7)
          clear hb7 hv7
          go_wp2_with (first
            | (go_at_call 7; refine (messages_walk _).mono ?_; rintro e w8 ⟨rfl, hb8⟩; have HE8 := Lib.hid ((HE7.out.alloc HE7.out.size _).trans (hb8.mono (Nat.le_trans HE7.out.size (by simp)))); have HG8 := Lib.hid (MsgS_steady.keep HV7.out ((Keep.refl _ w7).alloc _ |>.trans (Keep.of_below hb8))); have HW8 := Lib.hid (MsgS_steady.keep HW7.out ((Keep.refl _ w7).alloc _ |>.trans (Keep.of_below hb8))); obtain ⟨f0, f1, f2, f3, f4, f5⟩ := ((HB15.out.alloc _).below hb8).six; obtain ⟨h0, h1, h2, h3, h4, h5⟩ := ((Blk.new w7 28 #[.int .i64 RM.number, .slice EI RM.ints.length eI, .slice ES RM.strings.length eS, .slice EN RM.names.length eN, .slice ET RM.truths.length eT, .slice EB RM.bytes.length eB]).below hb8).six; clear hb8)
            | (go_at_call 11; refine (same_walk _ _ _ RM HG8.out HW8.out).mono ?_; rintro e w9 ⟨rfl, hb9⟩; have HE9 := Lib.hid (HE8.out.trans (hb9.mono HE8.out.size)); clear hb9))
          go_ret
          first | exact ⟨rfl, HE9.out⟩ | exact ⟨rfl, HE9.out.drew⟩
  · obtain ⟨l, rfl⟩ : ∃ l, l = other := ⟨_, rfl⟩
    have hpos : 0 < l.length := List.length_pos_iff.2 q8
    have d8 : (0 < (l.length : Int)) = True := eq_true (by omega)
    have d8b : (0 < l.length) = True := eq_true hpos
    clear q8 hpos
    go_wp2_with fail
    refine HC.out.mono ?_
    rintro e wb ⟨A0, c0, rfl, hown, hc, hm, hb⟩
    have HEb := Lib.hid (HE.out.trans (hb.mono HE.out.size))
    have HLB := Lib.hid (show l.length ≤ 100001 by have := HQ7.out; omega)
    clear hown hb HE HC HQQ hc hm
    go_wp2_with (at_builtin; refine wpList_append_RR rfl _ _ _ rfl wb.heap.size 5 (.int .u8 0) 1 Try.underlying26 info_u8 rfl (.slice (some ⟨wb.heap.size, 0, none⟩) 0 0) [] rfl (World.ownsRow_lit wb #[] 0 (Nat.le_refl _) (by decide) rfl) byteV byteV_one AO cO l rfl (RR.keep HOt.out (lit_steady _) ((Keep.of_below HEb.out).alloc _)) (by have := HQ7.out; simp; omega) (by have := HQ7.out; simp; omega) (by simp) ?_; intro A c w4 hown hg hat; refine Hid.out ?_)
    have HE := Lib.hid ((HEb.out.alloc HEb.out.size _).grown hg (Nat.le_trans HEb.out.size (by simp)) (fun q hq => (by have h9 : wb.heap.size = q := (by simpa [Value.ownBlock] using hq); have := HEb.out.size; omega)))
    have HOW := Lib.hid (show w4.ownsRow w0.heap.size 5 1 (.slice A l.length c) l.length (l.map byteV) by simpa using own_base hown HEb.out.size)
    have hc : l.length ≤ c := by
      obtain ⟨A', c', hv, h1, h2⟩ := own_form HOW.out
      injection hv with e1 e2 e3
      omega
    clear hown hg hat HEb d8 d8b
    refine Lib.hid ?_
    obtain ⟨i0, hi0, _, hsz, _⟩ := info_parts info_u8
    have hlc : l.length ≤ c := hc
    obtain ⟨kk, hkk⟩ : ∃ kk, kk = min k l.length := ⟨_, rfl⟩
    have q9 : kk ≤ l.length := by omega
    have d9 : (if (l.length : Int) < (k : Int) then (l.length : Int) else (k : Int)) = (kk : Int) := by split <;> omega
    have d9b : (if l.length < k then (l.length : Int) else (k : Int)) = (kk : Int) := by split <;> omega
    clear hkk
    obtain ⟨lq, hlq⟩ : ∃ lq, lq = l.take (l.length - kk) := ⟨_, rfl⟩
    have hqlen : lq.length = l.length - kk := by rw [hlq, List.length_take]; omega
    have hsl : ∀ W : World, (Instr.slice 26 (.slice A l.length c) none (some (.int .i64 ((l.length : Int) - (kk : Int)))) none).run Try.prog W = .ok (.slice A lq.length c) W := fun W => by
      rw [show ((l.length : Int) - (kk : Int)) = ((lq.length : Nat) : Int) by omega]
      exact slice_to 26 5 Try.underlying26 hi0 hsz A l.length c lq.length (by omega) hlc W
    have HOC := Lib.hid (show w4.ownsRow w0.heap.size 5 1 (.slice A lq.length c) (lq.map byteV).length (lq.map byteV) by
      have h1 := own_cut HOW.out (k := lq.length) (by omega)
      rw [List.length_map, show lq.map byteV = (l.map byteV).take lq.length by rw [hqlen, hlq, List.map_take]]
      exact h1)
    have HQL := Lib.hid (show lq.length ≤ 100001 by have := HLB.out; omega)
    have hl1 : l.length ≤ 100001 := HLB.out
    clear hi0 hsz hlc hlq hqlen HOW
    go_wp2_with (at_builtin; refine wpList_append_RR rfl _ _ _ rfl w0.heap.size 5 (.int .u8 0) 1 Try.underlying26 info_u8 rfl (.slice A lq.length c) (lq.map byteV) rfl HOC.out byteV byteV_one AM cM more rfl (RR.keep HMo.out (lit_steady _) (Keep.of_below HE.out)) (by have := HQL.out; have := HQ6.out; simp; omega) (by have := HQL.out; have := HQ6.out; simp; omega) HE.out.size ?_; intro A2 c2 w5 hown2 hg2 hat2)
    clear d9 d9b q9 hl1 hsl
    have HE5 := Lib.hid (HE.out.grown hg2 HE.out.size (fun q hq => (HOC.out.lt q hq).1))
    obtain ⟨lin, hlin⟩ : ∃ x, x = lq ++ more := ⟨_, rfl⟩
    have hll : lq.length + more.length = lin.length := by rw [hlin]; simp
    have HOW2 := Lib.hid (show w5.ownsRow w0.heap.size 5 1 (.slice A2 lin.length c2) lin.length (lin.map byteV) by simpa [hlin] using hown2)
    have hlinl : lin.length ≤ 200000 := by have := HQL.out; have := HQ6.out; omega
    rw [hll]
    clear hll hlin hown2 hg2 hat2 HOC HE
    have HE := HE5
    clear HE5
    have HLN := Lib.hid hlinl
    go_loopg [84] lt.length (fun gk v84 wr => ∃ (i : Nat) (ls : List UInt8), v84 = .int .i64 (i : Int) ∧ i ≤ lt.length ∧ Hid (i + gk = lt.length) ∧ Hid (ls.length = lin.length) ∧ Hid (wr.ownsRow w0.heap.size 5 1 (.slice A2 lin.length c2) lin.length (ls.map byteV)) ∧ Hid (Below w0.heap.size w0 wr))
    case atStart => exact ⟨0, lin, rfl, by omega, by simp [Hid], rfl, HOW2, HE⟩
    case round =>
      clear HE HOW2
      obtain ⟨i, ls, rfl, hi, hgk, hls, HOW, HE⟩ := hrel
      by_cases hlt : i < lt.length
      · have hq4 := HQ4.out
        obtain ⟨p, hp⟩ : ∃ p, lt[i]? = some p := ⟨_, List.getElem?_eq_getElem hlt⟩
        obtain ⟨ad, rfl, e1, e2⟩ := (HU.out.below HE.out) i p hp
        have hlta := blk_lt_of_cell e1
        have e3 : wr.cell? ⟨(ad.add (i * 2)).block, (ad.add (i * 2)).off + 1, none⟩ = some (.int .u8 (p.2.toNat : Int)) := by rw [cell_next (spot_none e1), add_add_]; exact e2
        obtain ⟨at_, to_⟩ := p
        simp only at e1 e3
        clear hp e2
        by_cases r1 : at_ < 0
        · have r1' : (at_ < 0) = True := eq_true r1
          clear r1
          go_wp2_with (go_at_call 7; refine (messages_walk _).mono ?_; rintro e w4 ⟨rfl, hb4⟩; have HE4 := Lib.hid ((HE.out.alloc HE.out.size _).trans (hb4.mono (Nat.le_trans HE.out.size (by simp)))); clear hb4 HE; have HE := HE4; clear HE4)
          all_goals (go_ret; first | exact ⟨rfl, HE.out⟩ | exact ⟨rfl, HE.out.drew⟩)
        have r1' : (at_ < 0) = False := eq_false r1
        by_cases r2 : (lin.length : Int) ≤ at_
        · have r2' : ((lin.length : Int) ≤ at_) = True := eq_true r2
          clear r1 r2
          go_wp2_with (go_at_call 7; refine (messages_walk _).mono ?_; rintro e w4 ⟨rfl, hb4⟩; have HE4 := Lib.hid ((HE.out.alloc HE.out.size _).trans (hb4.mono (Nat.le_trans HE.out.size (by simp)))); clear hb4 HE; have HE := HE4; clear HE4)
          all_goals (go_ret; first | exact ⟨rfl, HE.out⟩ | exact ⟨rfl, HE.out.drew⟩)
        have r2' : ((lin.length : Int) ≤ at_) = False := eq_false r2
        obtain ⟨j, rfl⟩ : ∃ j : Nat, at_ = (j : Int) := ⟨at_.toNat, by omega⟩
        have hj : j < lin.length := by omega
        clear r1 r2
        obtain ⟨g, hg0⟩ : ∃ g, A2 = some ⟨g, 0, none⟩ := by
          obtain ⟨g, cap, hv, _⟩ := HOW.out.form (by omega)
          injection hv with hv
          exact ⟨g, hv⟩
        subst hg0
        have hgl : g < wr.heap.size := (HOW.out.lt g rfl).2
        have HGW := Lib.hid (HOW.out.lt g rfl).1
        obtain ⟨old, hold⟩ : ∃ old, wr.cell? ⟨g, j, none⟩ = some old := own_cell_at HOW.out hj
        have hfz := own_unfrozen HOW.out j
        go_wp2_with fail
        go_roundg (gk - 1)
        case measure => have := hgk.out; omega
        case rel =>
          have hg := hgk.out
          have hg1 : i + 1 + (gk - 1) = lt.length := by omega
          have hl1 : (ls.set j to_).length = lin.length := by rw [List.length_set]; exact hls.out
          have hB := HE.out.setCell (p := ⟨g, j, none⟩) HGW.out (byteV to_)
          have hO := own_set HOW.out hj (byteV to_)
          rw [set_map_byte] at hO
          exact ⟨i + 1, ls.set j to_, by go_num, by omega, hg1, hl1, hO.alloc _, hB.alloc hB.size _⟩
      · have hie : i = lt.length := by omega
        subst hie
        clear hi hgk hlt
        go_wp2_with fail
        have HLN2 := Lib.hid (show ls.length ≤ 200000 by rw [hls.out]; exact HLN.out)
        rw [← hls.out]
        have HOW2 := Lib.hid (show wr.ownsRow w0.heap.size 5 1 (.slice A2 ls.length c2) ls.length (ls.map byteV) by rw [hls.out]; exact HOW.out)
        have hin : RR (lit byteV) (fun b => b < wr.heap.size) wr A2 ls := own_RR HOW2.out (fun b hb => (HOW2.out.lt b hb).2)
        have hc2 : ls.length ≤ c2 ∧ c2 ≤ 9223372036854775807 := by
          obtain ⟨A', c', hv, h1, h2⟩ := own_form HOW2.out
          injection hv with e1 e2 e3
          omega
        have HIN := Lib.hid hin
        clear hls HOW HLN hin
        have hrd : Calls Try.prog 9 #[.slice A2 ls.length c2] wr (ReadEnd wr ls) := by
          cases hls : ls with
          | nil => exact read_empty wr A2 c2
          | cons x r =>
            have h1 := HIN.out
            have h2 := HLN2.out
            rw [hls] at h1 h2 hc2
            simp only [List.length_cons] at h2
            cases hf : shapeP x.toNat with
            | none => exact read_open wr A2 c2 x r hf (h1.mono (lit_steady _) (fun _ _ _ => trivial)) (by omega)
            | some form => exact read_walk wr A2 c2 x r form hf (shape_small hf).1 (shape_small hf).2 (by omega) hc2.1 hc2.2 h1
        have him : (readP ls).2 ≠ 2 → ∃ r : Option Msg, ((readP ls).2 = 0 → r = some (readP ls).1) ∧ ((readP ls).2 = 1 → r = none) ∧ ∀ W : World, Below wr.heap.size wr W → Calls Try.prog 10 #[.slice A2 ls.length c2] W (ImEnd W r) := fun hne => by
          cases hls : ls with
          | nil => exact ⟨none, fun h => by (rw [← hls] at h; rw [hls] at h; exact absurd h (by decide)), fun _ => rfl, fun W hb => im_empty W A2 c2⟩
          | cons x r =>
            have h1 := HIN.out
            have h2 := HLN2.out
            rw [hls] at h1 h2 hne
            simp only [List.length_cons] at h2
            cases hf : shapeP x.toNat with
            | none => exact absurd (show (readP (x :: r)).2 = 2 by unfold readP; simp only [hf]) hne
            | some form =>
              have hlaw := read_law (xs := r) hf (shape_small hf).1 (shape_letters_one hf)
              obtain ⟨L, g1, g2, g3, g4⟩ := zz_any x r form (by omega) hf (hlaw.2.2 hne)
              exact ⟨imP x r form, hlaw.1, hlaw.2.1, fun W hb => im_walk W A2 c2 x r form L g1 g2 g3 g4 (by omega) (RR.mono (RR.keep h1 (lit_steady _) (Keep.of_below hb)) (lit_steady _) (fun _ _ _ => trivial))⟩
        have HIM := Lib.hid him
        have HRD := Lib.hid hrd
        clear hrd him hc2 HIN
        refine HRD.out.mono ?_
        rintro e w6 ⟨v6, rfl, hv6, hb6⟩
        generalize hst : readP ls = rp at *
        obtain ⟨RM, st⟩ := rp
        obtain ⟨vI, vS, vN, vT, vB, rfl, ⟨DI, dI, rfl, _, _, _⟩, ⟨DS, dS, rfl, _, _, _⟩, ⟨DN, dN, rfl, _, _, _⟩, ⟨DT, dT, rfl, _, _, _⟩, ⟨DB, dB, rfl, _, _, _⟩⟩ := id hv6
        have HS6 := Lib.hid hv6
        have HST := Lib.hid hst
        have HE6 := Lib.hid (HE.out.trans (hb6.mono HE.out.size))
        have HB6 := Lib.hid hb6
        simp only at *
        clear hv6 hst hb6 HE
        have HE := HE6
        clear HE6
        have hst2 : st ≤ 2 := by have := readP_st ls; rw [HST.out] at this; exact this
        obtain rfl | rfl | rfl : st = 2 ∨ st = 1 ∨ st = 0 := by omega
        · go_wp2_with (go_at_call 7; refine (messages_walk _).mono ?_; rintro e w7 ⟨rfl, hb7⟩; have HE7 := Lib.hid ((HE.out.alloc HE.out.size _).trans (hb7.mono (Nat.le_trans HE.out.size (by simp)))); clear hb7)
          go_ret
          first | exact ⟨rfl, HE7.out⟩ | exact ⟨rfl, HE7.out.drew⟩
        · clear hst2
          obtain ⟨r, _, hr, hcall⟩ := HIM.out (by decide)
          obtain rfl := hr rfl
          have hbW : Below wr.heap.size wr (w6.alloc (.cells #[.int .i64 RM.number, .slice DI RM.ints.length dI, .slice DS RM.strings.length dS, .slice DN RM.names.length dN, .slice DT RM.truths.length dT, .slice DB RM.bytes.length dB] 28)) := HB6.out.alloc HB6.out.size _
          have HC7 := Lib.hid (hcall _ hbW)
          have HEW := Lib.hid (HE.out.alloc HE.out.size (.cells #[.int .i64 RM.number, .slice DI RM.ints.length dI, .slice DS RM.strings.length dS, .slice DN RM.names.length dN, .slice DT RM.truths.length dT, .slice DB RM.bytes.length dB] 28))
          clear hcall hbW HIM HRD hr
          go_wp2_with fail
          refine HC7.out.mono ?_
          rintro e w7 ⟨hb7, rfl⟩
          have HE7 := Lib.hid (HEW.out.trans (hb7.mono HEW.out.size))
          clear hb7
          go_wp2_with (go_at_call 7; refine (messages_walk _).mono ?_; rintro e w8 ⟨rfl, hb8⟩; have HE8 := Lib.hid ((HE7.out.alloc HE7.out.size _).trans (hb8.mono (Nat.le_trans HE7.out.size (by simp)))); clear hb8)
          go_ret
          first | exact ⟨rfl, HE8.out⟩ | exact ⟨rfl, HE8.out.drew⟩
        · clear hst2
          obtain ⟨r, hr, _, hcall⟩ := HIM.out (by decide)
          obtain rfl := hr rfl
          have hbW : Below wr.heap.size wr (w6.alloc (.cells #[.int .i64 RM.number, .slice DI RM.ints.length dI, .slice DS RM.strings.length dS, .slice DN RM.names.length dN, .slice DT RM.truths.length dT, .slice DB RM.bytes.length dB] 28)) := HB6.out.alloc HB6.out.size _
          have HC7 := Lib.hid (hcall _ hbW)
          have HEW := Lib.hid (HE.out.alloc HE.out.size (.cells #[.int .i64 RM.number, .slice DI RM.ints.length dI, .slice DS RM.strings.length dS, .slice DN RM.names.length dN, .slice DT RM.truths.length dT, .slice DB RM.bytes.length dB] 28))
          clear hcall hbW HIM HRD hr
          go_wp2_with fail
          refine HC7.out.mono ?_
          rintro e w7 ⟨hb7, v7, rfl, hv7⟩
          obtain ⟨vI, vS, vN, vT, vB, rfl, ⟨EI, eI, rfl, _, _, _⟩, ⟨ES, eS, rfl, _, _, _⟩, ⟨EN, eN, rfl, _, _, _⟩, ⟨ET, eT, rfl, _, _, _⟩, ⟨EB, eB, rfl, _, _, _⟩⟩ := id hv7
          have HE7 := Lib.hid (HEW.out.trans (hb7.mono HEW.out.size))
          have HV7 := Lib.hid hv7
          have HW7 := Lib.hid (MsgS_steady.keep HS6.out ((Keep.refl _ w6).alloc (.cells #[.int .i64 RM.number, .slice DI RM.ints.length dI, .slice DS RM.strings.length dS, .slice DN RM.names.length dN, .slice DT RM.truths.length dT, .slice DB RM.bytes.length dB] 28) |>.trans (Keep.of_below hb7)))
          have HB15 := Lib.hid ((Blk.new w6 28 #[.int .i64 RM.number, .slice DI RM.ints.length dI, .slice DS RM.strings.length dS, .slice DN RM.names.length dN, .slice DT RM.truths.length dT, .slice DB RM.bytes.length dB]).below hb7)
          clear hb7 hv7
          go_wp2_with (first
            | (go_at_call 7; refine (messages_walk _).mono ?_; rintro e w8 ⟨rfl, hb8⟩; have HE8 := Lib.hid ((HE7.out.alloc HE7.out.size _).trans (hb8.mono (Nat.le_trans HE7.out.size (by simp)))); have HG8 := Lib.hid (MsgS_steady.keep HV7.out ((Keep.refl _ w7).alloc _ |>.trans (Keep.of_below hb8))); have HW8 := Lib.hid (MsgS_steady.keep HW7.out ((Keep.refl _ w7).alloc _ |>.trans (Keep.of_below hb8))); obtain ⟨f0, f1, f2, f3, f4, f5⟩ := ((HB15.out.alloc _).below hb8).six; obtain ⟨h0, h1, h2, h3, h4, h5⟩ := ((Blk.new w7 28 #[.int .i64 RM.number, .slice EI RM.ints.length eI, .slice ES RM.strings.length eS, .slice EN RM.names.length eN, .slice ET RM.truths.length eT, .slice EB RM.bytes.length eB]).below hb8).six; clear hb8)
            | (go_at_call 11; refine (same_walk _ _ _ RM HG8.out HW8.out).mono ?_; rintro e w9 ⟨rfl, hb9⟩; have HE9 := Lib.hid (HE8.out.trans (hb9.mono HE8.out.size)); clear hb9))
          go_ret
          first | exact ⟨rfl, HE9.out⟩ | exact ⟨rfl, HE9.out.drew⟩

end Go.Proofs.Ytnlkgaobbobakaa
