/- zzbytes.among, IndexAny, TrimRight, Trim at the signs of a blank and a tab; ssh.trimSpace. -/
import Derived.Test.YtoeepfmmceilaaaGreatDoorLnBytes
set_option linter.unusedVariables false
set_option linter.unusedSimpArgs false
namespace Go.Proofs.YtoeepfmmceilaaaGreatDoor
open Go.RowKit

def blankB (x : UInt8) : Bool := x == 32 || x == 9
def rtrimP (l : List UInt8) : List UInt8 := (l.reverse.dropWhile blankB).reverse
def trimP (l : List UInt8) : List UInt8 := (rtrimP l).dropWhile blankB
theorem rtrimP_nil : rtrimP [] = [] := rfl
theorem rtrimP_blank (l : List UInt8) (x : UInt8) (h : blankB x = true) : rtrimP (l ++ [x]) = rtrimP l := by
  unfold rtrimP
  rw [List.reverse_append, List.reverse_singleton, List.singleton_append, List.dropWhile_cons, if_pos h]
theorem rtrimP_sign (l : List UInt8) (x : UInt8) (h : blankB x = false) : rtrimP (l ++ [x]) = l ++ [x] := by
  unfold rtrimP
  rw [List.reverse_append, List.reverse_singleton, List.singleton_append, List.dropWhile_cons, h, if_neg (by decide)]
  simp
theorem rtrimP_len (l : List UInt8) : (rtrimP l).length ≤ l.length := by
  unfold rtrimP
  have := (List.dropWhile_sublist blankB (l := l.reverse)).length_le
  simpa using this
theorem trimP_len (l : List UInt8) : (trimP l).length ≤ l.length := by
  have h1 := (List.dropWhile_sublist blankB (l := rtrimP l)).length_le
  have h2 := rtrimP_len l
  unfold trimP
  omega

set_option maxHeartbeats 400000 in
theorem among2 (b : UInt8) (w : World) : Calls Tryz.prog 89 #[.int .u8 (b.toNat : Int), .string ⟨#[32, 9]⟩] w fun e w' => e = .returned (.bool (blankB b)) ∧ w' = w := by
  have s0 : ∀ h, ((⟨#[32, 9]⟩ : ByteArray)[0]'h).toNat = 32 := fun _ => rfl
  have s1 : ∀ h, ((⟨#[32, 9]⟩ : ByteArray)[1]'h).toNat = 9 := fun _ => rfl
  by_cases h32 : b = 32
  · subst h32
    go_enter Tryz.func89, Tryz.ntmps89
    go_wp2_with fail
    refine wp_loop_rounds 1 ?_
    rw [rounds_succ]
    go_wp2_with fail
    go_ret
    exact ⟨rfl, rfl⟩
  · have b32 : ((32 : Int) == (b.toNat : Int)) = false := by
      simp only [beq_eq_false_iff_ne, ne_eq]
      intro e
      exact h32 (UInt8.toNat_inj.1 (show b.toNat = 32 by omega))
    by_cases h9 : b = 9
    · subst h9
      go_enter Tryz.func89, Tryz.ntmps89
      go_wp2_with fail
      refine wp_loop_rounds 2 ?_
      rw [rounds_succ]
      go_wp2_with fail
      rw [rounds_succ]
      go_wp2_with fail
      go_ret
      exact ⟨rfl, rfl⟩
    · have b9 : ((9 : Int) == (b.toNat : Int)) = false := by
        simp only [beq_eq_false_iff_ne, ne_eq]
        intro e
        exact h9 (UInt8.toNat_inj.1 (show b.toNat = 9 by omega))
      have hf : blankB b = false := by simp [blankB, h32, h9]
      rw [hf]
      go_enter Tryz.func89, Tryz.ntmps89
      go_wp2_with fail
      refine wp_loop_rounds 3 ?_
      rw [rounds_succ]
      go_wp2_with fail
      rw [rounds_succ]
      go_wp2_with fail
      rw [rounds_succ]
      go_wp2_with fail
      go_ret
      exact ⟨rfl, rfl⟩

set_option maxHeartbeats 400000 in
theorem trimR_walk (ok : Nat → Prop) (A : Option Addr) (c : Nat) (xs : List UInt8) (w : World) (hl : xs.length ≤ 1000000) (hc : xs.length ≤ c) (hm : c ≤ 9223372036854775807) (hr : RR (lit byteV) ok w A xs) :
    Calls Tryz.prog 118 #[.slice A xs.length c, .string ⟨#[32, 9]⟩] w fun e w' => w' = w ∧ ∃ A2, e = .returned (.slice A2 (rtrimP xs).length c) ∧ RR (lit byteV) ok w A2 (rtrimP xs) := by
  have HR := Lib.hid hr
  clear hr
  go_enter Tryz.func118, Tryz.ntmps118
  go_wp2_with fail
  go_loopg [0] (xs.length + 1) (fun gk v0 wr => ∃ (A2 : Option Addr) (ys : List UInt8), v0 = .slice A2 ys.length c ∧ ys.length ≤ xs.length ∧ Hid (RR (lit byteV) ok w A2 ys) ∧ Hid (rtrimP ys = rtrimP xs) ∧ Hid (gk = ys.length + 1) ∧ wr = w)
  case atStart => exact ⟨A, xs, rfl, Nat.le_refl _, HR.out, rfl, rfl, rfl⟩
  case round =>
    obtain ⟨A2, ys, rfl, hyl, HY, HE, hgk, rfl⟩ := hrel
    rcases List.eq_nil_or_concat ys with rfl | ⟨zs, x, rfl⟩
    · go_wp2_with fail
      go_ret
      refine ⟨rfl, A2, ?_, ?_⟩
      · rw [← HE.out]; rfl
      · rw [← HE.out]; exact HY.out
    · simp only [List.concat_eq_append] at *
      obtain ⟨ad, rfl, _, hcc⟩ := RB.at HY.out (by simp)
      have hcx : wr.cell? (ad.add zs.length) = some (.int .u8 (x.toNat : Int)) := hcc zs.length x (by simp)
      obtain ⟨i0, hi0, _, hsz, _⟩ := info_parts info_u8
      obtain ⟨A3, us, hcut, hus, hul, hcr⟩ := cut_to (P := Tryz.prog) 28 5 .i64 Tryz.underlying28 hi0 hsz (some ad) c (zs ++ [x]) zs.length (by simp) (by omega)
      obtain rfl : us = zs := by rw [hus.out]; simp
      have hlen : (us ++ [x]).length = us.length + 1 := by simp
      rw [hlen] at hcut hyl
      have HZ := Lib.hid (hcr _ _ _ HY.out)
      have HA := Lib.hid (among2 x wr)
      have e1 : ((us.length + 1 : Nat) : Int) - 1 = (us.length : Int) := by omega
      have h0 : (0 : Int) < ((us.length + 1 : Nat) : Int) := by omega
      clear hcc hi0 hsz hus hcr hlen
      cases hb : blankB x
      · rw [hb] at HA
        rw [List.length_append, List.length_singleton]
        go_wp2_with (go_at_call 89; refine HA.out.mono ?_; rintro e w1 ⟨rfl, rfl⟩)
        go_ret
        refine ⟨rfl, some ad, ?_, ?_⟩
        · rw [← HE.out, rtrimP_sign _ _ hb]; simp
        · rw [← HE.out, rtrimP_sign _ _ hb]; exact HY.out
      · rw [hb] at HA
        rw [List.length_append, List.length_singleton]
        go_wp2_with (go_at_call 89; refine HA.out.mono ?_; rintro e w1 ⟨rfl, rfl⟩)
        go_roundg (gk - 1)
        case measure => have := hgk.out; simp at this; omega
        case rel =>
          have hg := hgk.out
          simp at hg
          exact ⟨A3, us, rfl, by omega, HZ.out, by show _ = _; rw [← HE.out, rtrimP_blank _ _ hb], by show _ = _; omega, rfl⟩

set_option maxHeartbeats 400000 in
theorem trim_walk (ok : Nat → Prop) (A : Option Addr) (c : Nat) (xs : List UInt8) (w : World) (hl : xs.length ≤ 1000000) (hc : xs.length ≤ c) (hm : c ≤ 9223372036854775807) (hr : RR (lit byteV) ok w A xs) :
    Calls Tryz.prog 88 #[.slice A xs.length c, .string ⟨#[32, 9]⟩] w fun e w' => w' = w ∧ ∃ A2 c2, e = .returned (.slice A2 (trimP xs).length c2) ∧ (trimP xs).length ≤ c2 ∧ c2 ≤ 9223372036854775807 ∧ RR (lit byteV) ok w A2 (trimP xs) := by
  have HT := Lib.hid (trimR_walk ok A c xs w hl hc hm hr)
  have hrl := rtrimP_len xs
  clear hr
  go_enter Tryz.func88, Tryz.ntmps88
  go_wp2_with (go_at_call 118; refine HT.out.mono ?_; rintro e w1 ⟨rfl, A1, rfl, hr1⟩; have HR1 := Lib.hid hr1; clear hr1)
  go_loopg [0] ((rtrimP xs).length + 1) (fun gk v0 wr => ∃ (A2 : Option Addr) (c2 : Nat) (ys : List UInt8), v0 = .slice A2 ys.length c2 ∧ ys.length ≤ xs.length ∧ ys.length ≤ c2 ∧ c2 ≤ 9223372036854775807 ∧ Hid (RR (lit byteV) ok w1 A2 ys) ∧ Hid (ys.dropWhile blankB = trimP xs) ∧ Hid (gk = ys.length + 1) ∧ wr = w1)
  case atStart => exact ⟨A1, c, rtrimP xs, rfl, hrl, by omega, hm, HR1.out, rfl, rfl, rfl⟩
  case round =>
    obtain ⟨A2, c2, ys, rfl, hyl, hyc, hcm, HY, HE, hgk, rfl⟩ := hrel
    cases ys with
    | nil =>
      go_wp2_with fail
      go_ret
      refine ⟨rfl, A2, c2, ?_, ?_, hcm, ?_⟩
      · rw [← HE.out]; rfl
      · rw [← HE.out]; simp
      · rw [← HE.out]; exact RR.nil _ _ _ _
    | cons x zs =>
      simp only [List.length_cons] at *
      obtain ⟨ad, rfl, _, hcc⟩ := RB.at HY.out (by simp)
      have hcx : wr.cell? ad = some (.int .u8 (x.toNat : Int)) := hcc 0 x rfl
      obtain ⟨i0, hi0, _, hsz, _⟩ := info_parts info_u8
      obtain ⟨A3, hcut, hcr⟩ := cut_tail (P := Tryz.prog) 28 5 Tryz.underlying28 hi0 hsz (some ad) c2 x zs hyc
      have HZ := Lib.hid (hcr _ _ _ HY.out)
      have HA := Lib.hid (among2 x wr)
      have h0 : (0 : Int) < ((zs.length + 1 : Nat) : Int) := by omega
      clear hcc hi0 hsz hcr
      cases hb : blankB x
      · rw [hb] at HA
        go_wp2_with (go_at_call 89; refine HA.out.mono ?_; rintro e w2 ⟨rfl, rfl⟩)
        go_ret
        have he : (x :: zs).dropWhile blankB = x :: zs := by rw [List.dropWhile_cons, hb]; rfl
        refine ⟨rfl, some ad, c2, ?_, ?_, hcm, ?_⟩
        · rw [← HE.out, he]; rfl
        · rw [← HE.out, he]; exact hyc
        · rw [← HE.out, he]; exact HY.out
      · rw [hb] at HA
        go_wp2_with (go_at_call 89; refine HA.out.mono ?_; rintro e w2 ⟨rfl, rfl⟩)
        go_roundg (gk - 1)
        case measure => have := hgk.out; omega
        case rel =>
          have hg := hgk.out
          exact ⟨A3, c2 - 1, zs, rfl, by omega, by omega, by omega, HZ.out, by show _ = _; rw [← HE.out, List.dropWhile_cons, if_pos hb], by show _ = _; omega, rfl⟩
theorem trimSpace_walk (ok : Nat → Prop) (A : Option Addr) (c : Nat) (xs : List UInt8) (w : World) (hl : xs.length ≤ 1000000) (hc : xs.length ≤ c) (hm : c ≤ 9223372036854775807) (hr : RR (lit byteV) ok w A xs) :
    Calls Tryz.prog 60 #[.slice A xs.length c] w fun e w' => w' = w ∧ ∃ A2 c2, e = .returned (.slice A2 (trimP xs).length c2) ∧ (trimP xs).length ≤ c2 ∧ c2 ≤ 9223372036854775807 ∧ RR (lit byteV) ok w A2 (trimP xs) := by
  have HT := Lib.hid (trim_walk ok A c xs w hl hc hm hr)
  clear hr
  go_enter Tryz.func60, Tryz.ntmps60
  go_wp2_with (go_at_call 88; refine HT.out.mono ?_; rintro e w1 ⟨rfl, A1, c1, rfl, h1, h2, hr1⟩; have HR1 := Lib.hid hr1; clear hr1)
  go_ret
  exact ⟨rfl, A1, c1, rfl, h1, h2, HR1.out⟩

/-- Where the first blank or tab stands; the length, where there is none. -/
def firstP (l : List UInt8) : Nat := (l.takeWhile fun x => !blankB x).length
def firstV (l : List UInt8) : Int := if firstP l < l.length then (firstP l : Int) else -1
theorem firstP_cons (x : UInt8) (l : List UInt8) : firstP (x :: l) = if blankB x then 0 else firstP l + 1 := by
  unfold firstP
  rw [List.takeWhile_cons]
  cases blankB x <;> simp
theorem firstP_le : ∀ l : List UInt8, firstP l ≤ l.length
  | [] => Nat.le_refl _
  | x :: r => by
    have := firstP_le r
    rw [firstP_cons, List.length_cons]
    split <;> omega
theorem firstP_app (l r : List UInt8) (x : UInt8) (h : ∀ y ∈ l, blankB y = false) (hx : blankB x = true) : firstP (l ++ x :: r) = l.length := by
  induction l with
  | nil => rw [List.nil_append, firstP_cons, if_pos hx]; rfl
  | cons y l ih =>
    rw [List.cons_append, firstP_cons, h y (List.mem_cons_self ..), if_neg (by decide), ih (fun z hz => h z (List.mem_cons_of_mem _ hz))]
    rfl

set_option maxHeartbeats 400000 in
theorem indexAny_walk (ok : Nat → Prop) (A : Option Addr) (c : Nat) (xs : List UInt8) (w : World) (hl : xs.length ≤ 1000000) (hr : RR (lit byteV) ok w A xs) :
    Calls Tryz.prog 61 #[.slice A xs.length c, .string ⟨#[32, 9]⟩] w fun e w' => e = .returned (.int .i64 (firstV xs)) ∧ w' = w := by
  have HR := Lib.hid hr
  clear hr
  go_enter Tryz.func61, Tryz.ntmps61
  go_wp2_with fail
  go_loopg [5, 6, 9] (xs.length + 1) (fun gk v5 v6 v9 wr => ∃ k : Nat, v9 = .int .i64 (k : Int) ∧ k ≤ xs.length ∧ Hid (k + gk = xs.length + 1) ∧ Hid (firstP xs = k + firstP (xs.drop k)) ∧ wr = w)
  case atStart => exact ⟨0, rfl, by omega, by simp [Hid], by simp [Hid], rfl⟩
  case round =>
    obtain ⟨k, rfl, hk, hgk, HF, rfl⟩ := hrel
    by_cases hlt : k < xs.length
    · obtain ⟨x, hx⟩ : ∃ x, xs[k]? = some x := ⟨_, List.getElem?_eq_getElem hlt⟩
      obtain ⟨ad, v, rfl, _, hcell, rfl⟩ := HR.out k x hx
      have hcell : wr.cell? (ad.add k) = some (.int .u8 (x.toNat : Int)) := hcell
      have hd : xs.drop k = x :: xs.drop (k + 1) := drop_cons_of hx
      have HD := Lib.hid hd
      have HA := Lib.hid (among2 x wr)
      clear hx hd
      cases hb : blankB x
      · rw [hb] at HA
        go_wp2_with (go_at_call 89; refine HA.out.mono ?_; rintro e w2 ⟨rfl, rfl⟩)
        go_roundg (gk - 1)
        case measure => have := hgk.out; omega
        case rel =>
          have hg := hgk.out
          refine ⟨k + 1, by simp, by omega, show _ = _ by omega, ?_, rfl⟩
          show _ = _
          have h1 := HF.out
          rw [HD.out, firstP_cons, hb, if_neg (by decide)] at h1
          omega
      · rw [hb] at HA
        go_wp2_with (go_at_call 89; refine HA.out.mono ?_; rintro e w2 ⟨rfl, rfl⟩)
        go_ret
        have h1 := HF.out
        rw [HD.out, firstP_cons, hb, if_pos rfl] at h1
        refine ⟨?_, rfl⟩
        unfold firstV
        rw [if_pos (by omega), h1]
        rfl
    · go_wp2_with fail
      go_ret
      have h1 := HF.out
      have h2 : xs.drop k = [] := List.drop_eq_nil_of_le (by omega)
      rw [h2] at h1
      refine ⟨?_, rfl⟩
      unfold firstV
      rw [if_neg (by have : firstP ([] : List UInt8) = 0 := rfl; omega)]
      rfl

end Go.Proofs.YtoeepfmmceilaaaGreatDoor
