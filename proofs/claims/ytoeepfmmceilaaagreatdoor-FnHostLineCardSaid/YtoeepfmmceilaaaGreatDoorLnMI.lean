/- smallbig.NewInt of a small number; ssh.intLength. -/
import Derived.Test.YtoeepfmmceilaaaGreatDoorLnPub
import Derived.Laws.CopyRow
set_option linter.unusedVariables false
set_option linter.unusedSimpArgs false
namespace Go.Proofs.YtoeepfmmceilaaaGreatDoor
open Go.RowKit

theorem digs_eV {E : List UInt8} (ht : TopB E.reverse) (hl : E.length ≤ 3) : Digs [eV E.reverse] E.reverse := by
  have h := digs_of E.reverse
  rw [digs_one h ht (by rw [List.length_reverse]; exact hl)] at h
  exact h
theorem u32_shr (n : Nat) (h : n < 4294967296) : (n : Int) / 4294967296 = 0 := by omega

theorem RR_blk {α : Type} {enc : α → Value} {ok : Nat → Prop} {w : World} {g : Nat} {t : TypeId} {cs : Array Value} (o : Nat) {xs : List α} (h : Blk w g t cs) (hg : ok g) (hx : ∀ i x, xs[i]? = some x → cs[o + i]? = some (enc x)) : RR (lit enc) ok w (some ⟨g, o, none⟩) xs := fun i x hi => by
  have e : (⟨g, o, none⟩ : Addr).add i = ⟨g, o + i, none⟩ := by
    unfold Addr.add
    split
    · subst_vars; simp_all
    · rfl
  exact ⟨⟨g, o, none⟩, enc x, rfl, hg, by rw [e, h.cell]; exact hx i x hi, rfl⟩
set_option maxHeartbeats 800000 in
theorem natOf_walk (n : Nat) (w : World) (h0 : n ≠ 0) (hn : n < 4294967296) :
    Calls Tryz.prog 173 #[.int .u64 (n : Int)] w fun e w' => ∃ (A : Option Addr) (c : Nat), e = .returned (.slice A 1 c) ∧ 1 ≤ c ∧ RR (lit natV) (fun b => w.heap.size ≤ b) w' A [n] ∧ Below w.heap.size w w' := by
  obtain ⟨W, hW⟩ : ∃ W, W = w.alloc (.cells #[.int .u32 (n : Int), .int .u32 0] 111) := ⟨_, rfl⟩
  have hb1 : Below w.heap.size w W := by rw [hW]; exact (Below.refl _ _).alloc (Nat.le_refl _) _
  have hB : Blk W w.heap.size 111 #[.int .u32 (n : Int), .int .u32 0] := by rw [hW]; exact Blk.new _ _ _
  have hr : RR (lit natV) (fun b => w.heap.size ≤ b) W (some ⟨w.heap.size, 0, none⟩) [n, 0] := RR_blk 0 hB (Nat.le_refl _) (fun i x hi => by
    match i, hi with
    | 0, hi => injection hi with hi; subst hi; rfl
    | 1, hi => injection hi with hi; subst hi; rfl
    | k + 2, hi => simp at hi)
  have ht : trimD [n, 0] = [n] := by
    have := trimD_zero [n]
    have h2 := trimD_sign [] n h0
    simp at this h2
    rw [this, h2]
  have HN := Lib.hid (norm_walk (fun b => w.heap.size ≤ b) (some ⟨w.heap.size, 0, none⟩) 2 [n, 0] W (by simp) (by simp) hr)
  rw [ht] at HN
  have hs := u32_shr n hn
  have HW := Lib.hid hW
  have HB := Lib.hid hb1
  have e1 := u32w n hn
  have e2 : IntKind.u32.wrap 0 = 0 := by decide
  clear hW hb1 hB hr ht h0 hn
  go_enter Tryz.func173, Tryz.ntmps173
  go_wp2_with (go_at_call 167; (try rw [hs]); rw [← HW.out]; refine HN.out.mono ?_; rintro e w1 ⟨rfl, hw, hr⟩; have hw := hw.symm; subst hw; have HR := Lib.hid hr; clear hr)
  go_ret
  exact ⟨some ⟨w.heap.size, 0, none⟩, 2, rfl, by decide, HR.out, HB.out⟩

set_option maxHeartbeats 800000 in
theorem newInt_walk (n : Nat) (le : List UInt8) (w : World) (h0 : n ≠ 0) (hn : n < 4294967296) (hd : Digs [n] le) :
    Calls Tryz.prog 165 #[.int .i64 (n : Int)] w fun e w' => ∃ g, e = .returned (.pointer (some ⟨g, 0, none⟩)) ∧ BigAt (fun b => w.heap.size ≤ b) w' (.pointer (some ⟨g, 0, none⟩)) le ∧ Below w.heap.size w w' := by
  obtain ⟨W, hW⟩ : ∃ W, W = w.alloc (.cells #[.bool false, .slice none 0 0] 272) := ⟨_, rfl⟩
  have hb1 : Below w.heap.size w W := by rw [hW]; exact (Below.refl _ _).alloc (Nat.le_refl _) _
  have hB : Blk W w.heap.size 272 #[.bool false, .slice none 0 0] := by rw [hW]; exact Blk.new _ _ _
  have hsz : W.heap.size = w.heap.size + 1 := by rw [hW]; simp
  have HS : Calls Tryz.prog 169 #[.pointer (some ⟨w.heap.size, 0, none⟩), .int .i64 (n : Int)] W fun e w' => e = .returned (.pointer (some ⟨w.heap.size, 0, none⟩)) ∧ BigAt (fun b => w.heap.size ≤ b) w' (.pointer (some ⟨w.heap.size, 0, none⟩)) le ∧ Keep (but w.heap.size) W w' := by
    have HN := Lib.hid (natOf_walk n W h0 hn)
    have HB := Lib.hid hB
    have HD := Lib.hid hd
    have hu : IntKind.u64.wrap (n : Int) = (n : Int) := by rw [IntKind.wrap_u64]; omega
    have hz : ((n : Int) < 0) = False := eq_false (by omega)
    have HSZ := Lib.hid hsz
    clear hW hb1 hB hd hn h0 hsz
    go_enter Tryz.func169, Tryz.ntmps169
    go_wp2_with (go_at_call 173; refine HN.out.mono ?_; rintro e w1 ⟨A, c, rfl, h1, h2, h3⟩; have H1 := Lib.hid h1; have H2 := Lib.hid h2; have H3 := Lib.hid h3; have HB2 := Lib.hid (show Blk w1 w.heap.size 272 #[.bool false, .slice none 0 0] from (h3.block _ HB.out.lt).trans HB.out); have q0 := HB2.out.cell 1; have p0 := HB2.out.frozen 1; have q1 : ∀ v, (w1.setCell ⟨w.heap.size, 1, none⟩ v).cell? ⟨w.heap.size, 0, none⟩ = some (.bool false) := (fun v => (HB2.out.set_ 1 v).cell 0); have p1 : ∀ v, (w1.setCell ⟨w.heap.size, 1, none⟩ v).frozen? ⟨w.heap.size, 0, none⟩ = false := (fun v => (HB2.out.set_ 1 v).frozen 0); clear h1 h2 h3)
    go_ret
    have K1 : Keep (but w.heap.size) w1 ((w1.setCell ⟨w.heap.size, 1, none⟩ (.slice A 1 c)).setCell ⟨w.heap.size, 0, none⟩ (.bool false)) := ((Keep.refl _ _).setCell (fun _ hn => hn rfl) _).setCell (fun _ hn => hn rfl) _
    refine ⟨rfl, ⟨w.heap.size, A, [n], c, rfl, Nat.le_refl _, (HB2.out.set_ 1 _).set_ 0 _, H1.out, ?_, HD.out⟩, (Keep.of_below H3.out).trans K1⟩
    have := HSZ.out
    exact ((H2.out.mono (ok' := fun b => W.heap.size ≤ b) (lit_steady _) (fun b _ hb => hb)).keep (lit_steady _) (K1.mono (fun b _ hb => by show b ≠ _; omega))).mono (lit_steady _) (fun b _ hb => by omega)
  have HS := Lib.hid HS
  have HW := Lib.hid hW
  have HB := Lib.hid hb1
  clear hW hb1 hB hd hn h0 hsz
  go_enter Tryz.func165, Tryz.ntmps165
  go_wp2_with (go_at_call 169; rw [← HW.out]; refine HS.out.mono ?_; rintro e w1 ⟨rfl, h1, h2⟩; have H1 := Lib.hid h1; have H2 := Lib.hid h2; clear h1 h2)
  go_ret
  refine ⟨w.heap.size, rfl, H1.out, ?_⟩
  have h1 := HB.out
  have h2 := H2.out
  exact ⟨h2.os.trans h1.os, h2.tape.trans h1.tape, h2.output.trans h1.output, Nat.le_trans h1.size h2.size, fun k hk => (h2.block k (Nat.lt_of_lt_of_le hk h1.size) (Nat.ne_of_lt hk)).trans (h1.block k hk)⟩

/-- How many bytes a big number takes. -/
theorem padP_rev (le : List UInt8) (x : UInt8) (hx : le[le.length - 1]? = some x) : (padP le.reverse).length = le.length + (if 128 ≤ x.toNat then 1 else 0) := by
  obtain ⟨r, hr⟩ : ∃ r, le.reverse = x :: r := by
    match h : le.reverse, hx with
    | [], hx =>
      have : le = [] := by simpa using h
      subst this
      simp at hx
    | y :: r, hx =>
      have hl : le = r.reverse ++ [y] := by have := congrArg List.reverse h; simpa using this
      rw [hl] at hx
      simp at hx
      exact ⟨r, by rw [hx]⟩
  have hn : le.length = r.length + 1 := by have := congrArg List.length hr; simpa using this
  rw [hr, hn]
  by_cases h : 127 < x.toNat
  · rw [if_pos (by omega)]; simp [padP, h]
  · rw [if_neg (by omega)]; simp [padP, h]
theorem w64_7 (n : Nat) (h : n ≤ 100000) : wrap64 ((n : Int) + 7) = (n : Int) + 7 := by unfold wrap64; omega
theorem w64_4 (n : Nat) (h : n ≤ 10000) : wrap64 (4 + (n : Int)) = 4 + (n : Int) := by unfold wrap64; omega
theorem w64_5 (n : Nat) (h : n ≤ 10000) : wrap64 (5 + (n : Int)) = 5 + (n : Int) := by unfold wrap64; omega
theorem tm8 (k m : Nat) (h : k % 8 = m) : (k : Int).tmod 8 = (m : Int) := by rw [Int.tmod_eq_emod_of_nonneg (by omega)]; omega
set_option maxHeartbeats 800000 in
theorem intLength_walk (ok : Nat → Prop) (w : World) (v : Value) (le : List UInt8) (hv : BigAt ok w v le) (ht : TopB le) (hll : le.length ≤ 10000) :
    Calls Tryz.prog 214 #[v] w fun e w' => e = .returned (.int .i64 (((padP le.reverse).length + 4 : Nat) : Int)) ∧ w' = w := by
  have HS := Lib.hid (Sign_walk ok w v le hv ht)
  have HB := Lib.hid (BitLen_at ok w v le hv ht hll)
  obtain ⟨x, hx⟩ : ∃ x, le[le.length - 1]? = some x := ⟨_, List.getElem?_eq_getElem (by have := ht.1; omega)⟩
  have HX := Lib.hid hx
  have HP := Lib.hid (padP_rev le x hx)
  obtain ⟨pl, hpl⟩ : ∃ q, q = (padP le.reverse).length := ⟨_, rfl⟩
  rw [← hpl] at HP ⊢
  have HL := Lib.hid hll
  clear hv ht hx hpl hll
  go_enter Tryz.func214, Tryz.ntmps214
  go_wp2_with (first
    | (go_at_call 218; refine HS.out.mono ?_; rintro e w1 ⟨rfl, hw⟩; have hw := hw.symm; subst hw)
    | (go_at_call 146; refine HB.out.mono ?_; rintro e w1 ⟨hw, bl, rfl, hb1, hb2⟩; have hw := hw.symm; subst hw; have HB1 := Lib.hid hb1; have HB2 := Lib.hid (hb2 x HX.out); have hbl : bl ≤ 100000 := (by have := HL.out; omega); have y3 := w64_7 bl hbl; have y4 := td8 (bl + 7) le.length hb1.symm; have y4' : ((bl : Int) + 7).tdiv 8 = (le.length : Int) := y4; have y1 := tm8 bl (bl % 8) rfl; have y5 := w64_4 le.length HL.out; have y6 := w64_5 le.length HL.out; clear hb1 hb2 hbl))
  all_goals
    go_ret
    refine ⟨?_, rfl⟩
    rename_i hm8
    have h1 := HB1.out
    have h2 := HB2.out
    have h3 := HP.out
    have y8 := w64 le.length (by have := HL.out; clear y3 y4 y4' y5 y6; omega)
    simp only [y3, y4', y8, y5, y6]
    show Ending.returned (.int .i64 _) = _
    clear y3 y4 y4' y5 y6 y8 y1
    congr 2
    simp at hm8
    split at h3 <;> omega

end Go.Proofs.YtoeepfmmceilaaaGreatDoor
