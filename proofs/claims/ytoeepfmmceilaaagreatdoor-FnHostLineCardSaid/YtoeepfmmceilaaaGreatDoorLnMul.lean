/- spec.Multi: a big number's bytes. -/
import Derived.Test.YtoeepfmmceilaaaGreatDoorLnBytes
set_option linter.unusedVariables false
set_option linter.unusedSimpArgs false
namespace Go.Proofs.YtoeepfmmceilaaaGreatDoor
open Go.RowKit

/-- Without noughts ahead. -/
def dropZ : List UInt8 → List UInt8
  | [] => []
  | x :: r => if x = 0 then dropZ r else x :: r
/-- With a nought ahead where the first bit is set. -/
def padP : List UInt8 → List UInt8
  | [] => []
  | x :: r => if 127 < x.toNat then 0 :: x :: r else x :: r
def mulP (xs : List UInt8) : List UInt8 := strP (padP (dropZ xs))
theorem dropZ_len : ∀ xs : List UInt8, (dropZ xs).length ≤ xs.length
  | [] => Nat.le_refl _
  | x :: r => by
    have := dropZ_len r
    unfold dropZ
    split <;> simp <;> omega
theorem padP_len (xs : List UInt8) : (padP xs).length ≤ xs.length + 1 := by
  match xs with
  | [] => simp [padP]
  | x :: r =>
    by_cases h : 127 < x.toNat <;> simp [padP, h]
theorem mulP_len (xs : List UInt8) : (mulP xs).length ≤ xs.length + 5 := by
  have h1 := dropZ_len xs
  have h2 := padP_len (dropZ xs)
  simp [mulP, strP, be4]
  omega

set_option maxRecDepth 100000 in
set_option maxHeartbeats 800000 in
theorem multi_walk (ok : Nat → Prop) (A : Option Addr) (c : Nat) (xs : List UInt8) (w : World) (hl : xs.length ≤ 1000000) (hc : xs.length ≤ c) (hr : RR (lit byteV) ok w A xs) :
    Calls Tryz.prog 75 #[.slice A xs.length c] w (NewS w (mulP xs)) := by
  have HR := Lib.hid hr
  have HC := Lib.hid hc
  have HL := Lib.hid hl
  clear hr hc hl
  go_enter Tryz.func75, Tryz.ntmps75
  go_wp2_with fail
  go_loopg [0] (xs.length + 1) (fun gk v0 wr => ∃ (A2 : Option Addr) (c2 : Nat) (ys : List UInt8), v0 = .slice A2 ys.length c2 ∧ Hid (ys.length ≤ c2) ∧ Hid (ys.length + 1 ≤ gk) ∧ Hid (ys.length ≤ xs.length) ∧ Hid (dropZ xs = dropZ ys) ∧ Hid (RR (lit byteV) ok w A2 ys) ∧ wr = w)
  case atStart => exact ⟨A, c, xs, rfl, HC.out, by simp [Hid], Nat.le_refl _, rfl, HR.out, rfl⟩
  case round =>
    obtain ⟨A2, c2, ys, rfl, hyc, hgk, hyl, hdz, hry, rfl⟩ := hrel
    cases ys with
    | nil =>
      have HS := Lib.hid (news_of (string_new ok A2 c2 [] wr (by simp) (Nat.zero_le _) hry.out))
      have hfin := Lib.hid (show mulP xs = strP [] by unfold mulP; rw [hdz.out]; rfl)
      go_wp2_with (go_at_call 48; refine HS.out.mono ?_; rintro e w1 ⟨A1, c1, rfl, h1, h2, h3, h4⟩)
      go_ret
      rw [hfin.out]
      exact ⟨A1, c1, rfl, h1, h2, h3, h4⟩
    | cons x r =>
      obtain ⟨i0, hi0, _, hsz, _⟩ := info_parts info_u8
      obtain ⟨A3, r3, q3⟩ := cut_tail (P := Tryz.prog) 28 5 Tryz.underlying28 hi0 hsz A2 c2 x r hyc.out
      obtain ⟨ad, rfl, _, hcc⟩ := RB.at hry.out (by simp)
      have hcx : wr.cell? ad = some (.int .u8 (x.toNat : Int)) := hcc 0 x rfl
      have HRY := Lib.hid hry.out
      clear hi0 hsz hcc
      by_cases hx : x = 0
      · subst hx
        go_wp2_with fail
        go_roundg (gk - 1)
        case measure => have := hgk.out; simp at this; omega
        case rel =>
          have hg := hgk.out
          have hy := hyl.out
          have hc2 := hyc.out
          simp only [List.length_cons] at hg hy hc2
          exact ⟨A3, c2 - 1, r, rfl, show _ ≤ _ by omega, show _ ≤ _ by omega, show _ ≤ _ by omega, show _ = _ by rw [hdz.out]; simp [dropZ], q3 _ _ _ HRY.out, rfl⟩
      · have hz : ((x.toNat : Int) == 0) = false := by
          rw [beq_eq_false_iff_ne]
          intro h
          exact hx (UInt8.toNat_inj.1 (by show x.toNat = 0; omega))
        have hd : dropZ xs = x :: r := by rw [hdz.out]; simp [dropZ, hx]
        obtain ⟨ys, hys⟩ : ∃ ys, ys = x :: r := ⟨_, rfl⟩
        have hyl1 : 1 ≤ ys.length := by rw [hys]; simp
        have hyl2 : (0 < ys.length) = True := eq_true (by omega)
        rw [← hys] at HRY hyc hyl hd ⊢
        by_cases h127 : 127 < x.toNat
        · have e1 : ((127 : Int) < (x.toNat : Int)) = True := eq_true (by omega)
          have hfin := Lib.hid (show mulP xs = strP (0 :: ys) by unfold mulP; rw [hd, hys]; simp [padP, h127])
          have HYLB := Lib.hid (show ys.length ≤ 1000000 from Nat.le_trans hyl.out HL.out)
          clear hd hx hyl hyc hgk hdz hry h127 r3 q3 hys
          have HOW := Lib.hid (show (wr.alloc (.cells #[.int .u8 0] 5)).ownsRow wr.heap.size 5 1 (.slice (some ⟨wr.heap.size, 0, none⟩) 1 1) [byteV 0].length [byteV 0] from World.ownsRow_lit wr (base := wr.heap.size) (size := 1) (e := 5) #[byteV 0] 1 (Nat.le_refl _) (by decide) rfl)
          go_wp2_with (at_builtin; refine wpList_append_RR rfl _ _ _ rfl wr.heap.size 5 (.int .u8 0) 1 Tryz.underlying28 info_u8 rfl (.slice (some ⟨wr.heap.size, 0, none⟩) 1 1) [byteV 0] rfl HOW.out byteV byteV_one (some ad) c2 ys rfl (RR.keep HRY.out (lit_steady _) ((Keep.refl _ _).alloc _)) (by have := HYLB.out; simp; omega) (by have := HYLB.out; simp; omega) (by simp) ?_; intro A5 c5 w2 hown2 hg2 hat2)
          obtain ⟨o, ho⟩ : ∃ o, o = 0 :: ys := ⟨_, rfl⟩
          have hol : 1 + ys.length = o.length := by rw [ho, List.length_cons]; omega
          have hown3 : w2.ownsRow wr.heap.size 5 1 (.slice A5 o.length c5) o.length (o.map byteV) := by
            have e : [byteV 0] ++ ys.map byteV = o.map byteV := by rw [ho]; rfl
            rw [e, List.length_map] at hown2
            have e2 : [byteV 0].length + ys.length = o.length := by rw [← hol]; rfl
            first
              | (rw [e2] at hown2; exact hown2)
              | (rw [← hol] at hown2 ⊢; exact hown2)
          have hbel : Below wr.heap.size wr w2 := ((Below.refl _ _).alloc (Nat.le_refl _) _).grown hg2 (by simp) (fun k hk => by have h9 : wr.heap.size = k := (by simpa [Value.ownBlock] using hk); omega)
          obtain ⟨A', c', hv, hcl, hcm⟩ := own_form hown3
          injection hv with e1 e2 e3
          subst e3
          have HS := Lib.hid (news_of (string_new all_ A5 c5 o w2 (by have := HYLB.out; omega) (by omega) (own_RR hown3 (fun _ _ => trivial))))
          have HF2 := Lib.hid (show mulP xs = strP o by rw [hfin.out, ho])
          rw [hol]
          have HB := Lib.hid hbel
          clear hown2 hown3 hg2 hat2 hbel hol ho
          refine HS.out.mono ?_
          rintro e w1 ⟨A1, c1, rfl, h1, h2, h3, h4⟩
          go_wp2_with fail
          go_ret
          rw [HF2.out]
          exact ⟨A1, c1, rfl, own_base h1 HB.out.size, h2, h3, HB.out.trans (h4.mono HB.out.size)⟩
        · have e1 : ((127 : Int) < (x.toNat : Int)) = False := eq_false (by omega)
          have HS := Lib.hid (news_of (string_new ok (some ad) c2 ys wr (by have := hyl.out; have := HL.out; omega) hyc.out HRY.out))
          have hfin := Lib.hid (show mulP xs = strP ys by unfold mulP; rw [hd, hys]; simp [padP, h127])
          clear hd hx hyl hyc hgk hdz hry h127 r3 q3 hys
          go_wp2_with (go_at_call 48; refine HS.out.mono ?_; rintro e w1 ⟨A1, c1, rfl, h1, h2, h3, h4⟩)
          go_ret
          rw [hfin.out]
          exact ⟨A1, c1, rfl, h1, h2, h3, h4⟩

end Go.Proofs.YtoeepfmmceilaaaGreatDoor
