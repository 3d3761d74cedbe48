/- base64's Decode at what was written of 6p + 3 bytes. -/
import Derived.Test.YtoeepfmmceilaaaGreatDoorLnDq
import Derived.Test.YtoeepfmmceilaaaGreatDoorLnAsm
import Derived.BigQuiet
set_option linter.unusedVariables false
set_option linter.unusedSimpArgs false
namespace Go.Proofs.YtoeepfmmceilaaaGreatDoor
open Go.RowKit

theorem b64P_drop : ∀ (k : Nat) (xs : List UInt8), 3 * k ≤ xs.length → (b64P xs).drop (4 * k) = b64P (xs.drop (3 * k))
  | 0, xs, _ => by simp
  | k + 1, a :: b :: c :: r, h => by
    have := b64P_drop k r (by simp at h; omega)
    rw [show 4 * (k + 1) = 4 * k + 1 + 1 + 1 + 1 by omega, show 3 * (k + 1) = 3 * k + 1 + 1 + 1 by omega]
    simp only [b64P, List.drop_succ_cons]
    exact this
  | k + 1, [], h => by simp at h; 
  | k + 1, [a], h => by simp at h; omega
  | k + 1, [a, b], h => by simp at h; omega

theorem six_sum (a b c d e f : Nat) (ha : a < 256) (hb : b < 256) (hc : c < 256) (hd : d < 256) (he : e < 256) (hf : f < 256) :
    ((((((((a / 4) * 64 + (a % 4 * 16 + b / 16)) * 64 + (b % 16 * 4 + c / 64)) * 64 + c % 64) * 64 + (d / 4)) * 64 + (d % 4 * 16 + e / 16)) * 64 + (e % 16 * 4 + f / 64)) * 64 + f % 64) = ((((a * 256 + b) * 256 + c) * 256 + d) * 256 + e) * 256 + f := by omega
theorem six_bytes (a b c d e f U : Nat) (ha : a < 256) (hb : b < 256) (hc : c < 256) (hd : d < 256) (he : e < 256) (hf : f < 256) (hU : U = ((((a * 256 + b) * 256 + c) * 256 + d) * 256 + e) * 256 + f) :
    U * 65536 < 18446744073709551616 ∧ U * 65536 / 72057594037927936 % 256 = a ∧ U * 65536 / 281474976710656 % 256 = b ∧ U * 65536 / 1099511627776 % 256 = c ∧ U * 65536 / 4294967296 % 256 = d ∧ U * 65536 / 16777216 % 256 = e ∧ U * 65536 / 65536 % 256 = f := by
  refine ⟨by omega, by omega, by omega, by omega, by omega, by omega, by omega⟩
theorem cut_dst (gd L n : Nat) (h : n < L) (W : World) : (Instr.slice 28 (.slice (some ⟨gd, 0, none⟩) L L) (some (.int .i64 (n : Int))) none none).run Tryz.prog W = .ok (.slice (some ⟨gd, n, none⟩) (L - n) (L - n)) W := by
  obtain ⟨i0, hi0, _, hsz, _⟩ := info_parts info_u8
  have hel : Tryz.prog.elem 28 = 5 := by simp [Program.elem, Tryz.underlying28]
  have hu : Tryz.prog.underlying 28 = some (.slice (Tryz.prog.elem 28)) := by rw [hel]; exact Tryz.underlying28
  rw [run_slice_l W 28 (some ⟨gd, 0, none⟩) L L hu .i64 (n : Int) (Int.natCast_nonneg _) (by omega), hel]
  have hne : ¬ L = n := by omega
  simp [sizeOf, typeInfo, hi0, hsz, sliced, Result.andThen, hne, Addr.add]
  intro h0
  exact h0.symm
/-- What Decode keeps while it goes. -/
structure DecI (ok : Nat → Prop) (w wr : World) (gd : Nat) (xs : List UInt8) (n : Nat) (cs : Array Value) : Prop where
  blk : Blk wr gd 5 cs
  size : cs.size = xs.length
  done : ∀ i x, i < n → xs[i]? = some x → cs[i]? = some (byteV x)
  keep : Keep (but gd) w wr

theorem DecI.more {ok : Nat → Prop} {w wr w2 : World} {gd n m : Nat} {xs : List UInt8} {cs cs' : Array Value} (h : DecI ok w wr gd xs n cs) (hk : Keep (but gd) wr w2) (hb : Blk w2 gd 5 cs') (hs : cs'.size = cs.size) (hlow : ∀ i, i < n → cs'[i]? = cs[i]?) (hnew : ∀ j x, j < m → xs[n + j]? = some x → cs'[n + j]? = some (byteV x)) : DecI ok w w2 gd xs (n + m) cs' := by
  refine ⟨hb, hs.trans h.size, fun i x hi hx => ?_, h.keep.trans hk⟩
  by_cases hlt : i < n
  · rw [hlow i hlt]
    exact h.done i x hlt hx
  · obtain ⟨j, rfl⟩ : ∃ j, i = n + j := ⟨i - n, by omega⟩
    exact hnew j x (by omega) hx
theorem DecI.end_ {ok : Nat → Prop} {w wr : World} {gd n : Nat} {xs : List UInt8} {cs : Array Value} (h : DecI ok w wr gd xs n cs) (hn : n = xs.length) : Blk wr gd 5 (xs.map byteV).toArray := by
  have e : cs = (xs.map byteV).toArray := by
    apply Array.ext_getElem?
    intro i
    have e2 : (xs.map byteV).toArray[i]? = (xs[i]?).map byteV := by simp
    rw [e2]
    by_cases hi : i < xs.length
    · have hx := List.getElem?_eq_getElem hi
      rw [hx, h.done i _ (by omega) hx]
      rfl
    · rw [Array.getElem?_eq_none (by rw [h.size]; omega), List.getElem?_eq_none (by omega)]
      rfl
  rw [← e]
  exact h.blk

set_option maxRecDepth 100000 in
set_option maxHeartbeats 1600000 in
theorem decode_walk (ok : Nat → Prop) (B : Option Addr) (cb : Nat) (xs : List UInt8) (w : World) (ge gd p : Nat) (cs0 : Array Value) (hp : xs.length = 6 * p + 3) (hl : xs.length ≤ 100000) (hcb : (b64P xs).length ≤ cb) (hr : RR (lit byteV) ok w B (b64P xs)) (hok : ∀ b, ok b → b ≠ gd)
    (hb : Blk w ge 177 encC) (hd : Blk w gd 5 cs0) (hs0 : cs0.size = xs.length) :
    Calls Tryz.prog 91 #[.pointer (some ⟨ge, 0, none⟩), .slice (some ⟨gd, 0, none⟩) xs.length xs.length, .slice B (b64P xs).length cb] w fun e w' => e = .returned (.tuple #[.int .i64 (xs.length : Int), .nilIface]) ∧ Keep (but gd) w w' ∧ Blk w' gd 5 (xs.map byteV).toArray := by
  have hbl : (b64P xs).length = 8 * p + 4 := by rw [b64P_len]; omega
  have hgg : ge ≠ gd := by
    rintro rfl
    have := hb.symm.trans hd
    injection this with h1
    injection h1 with _ h2 _
    exact absurd h2 (by decide)
  have HB := Lib.hid hb
  have HI0 := Lib.hid (show DecI ok w w gd xs 0 cs0 from ⟨hd, hs0, fun i x hi => by omega, Keep.refl _ _⟩)
  have HR := Lib.hid hr
  have HX := Lib.hid (load_map hb)
  obtain ⟨M, hM⟩ : ∃ M, M = (b64P xs).length := ⟨_, rfl⟩
  obtain ⟨L, hL⟩ : ∃ L, L = xs.length := ⟨_, rfl⟩
  rw [← hM, ← hL]
  have HM := Lib.hid (show M = 8 * p + 4 by omega)
  have HL := Lib.hid (show L = 6 * p + 3 by omega)
  have HMX := Lib.hid hM
  have HCB := Lib.hid hcb
  have HLX := Lib.hid hL
  have hz : ((M : Int) == 0) = false := by simp only [beq_eq_false_iff_ne, ne_eq]; omega
  have hML : M ≤ 200000 := by omega
  have hLL : L ≤ 200000 := by omega
  clear hb hd hr hp hbl hM hL hs0 hcb hl
  go_enter Tryz.func91, Tryz.ntmps91
  go_wp2_with fail
  refine wp_load_mid 175 (.tmp 23) rfl ge 64 rfl mapL (.array 256 5) HX.out Tryz.underlying175 rfl size_map ?_
  rename_i hK
  refine hK _ _ ?_
  clear hK
  go_wp2_with fail
  go_loopg [6, 7, 8, 9, 10, 11, 12] (p + 1) (fun gk v6 v7 v8 v9 v10 v11 v12 wr => ∃ (k si n : Nat) (cs : Array Value), v6 = .int .i64 (n : Int) ∧ v7 = .nilIface ∧ v8 = .int .i64 (si : Int) ∧ si ≤ 200000 ∧ n ≤ 200000 ∧ Hid (k ≤ p) ∧ Hid (si = 8 * k) ∧ Hid (n = 6 * k) ∧ Hid (k + gk = p + 1) ∧ Hid (DecI ok w wr gd xs n cs))
  case atStart => exact ⟨0, 0, 0, cs0, rfl, rfl, rfl, by omega, by omega, by simp [Hid], rfl, rfl, by simp [Hid], HI0⟩
  case round =>
    obtain ⟨k, si, n, cs, rfl, rfl, rfl, hsl, hnl, hkp, HSI, HN, hgk, HI⟩ := hrel
    by_cases hlt : k < p
    · have t1 : ((8 : Int) ≤ (M : Int) - (si : Int)) = True := eq_true (by have h1 := HM.out; have h2 := HSI.out; omega)
      have t2 : ((8 : Int) ≤ (L : Int) - (n : Int)) = True := eq_true (by have h1 := HL.out; have h2 := HN.out; omega)
      have HLT := Lib.hid hlt
      clear hlt
      obtain ⟨i0, hi0, _, hsz, _⟩ := info_parts info_u8
      obtain ⟨a, b, c3, d, e_, f, r, hd6⟩ : ∃ a b c d e f r, xs.drop n = a :: b :: c :: d :: e :: f :: r := by
        have h1 : 6 ≤ (xs.drop n).length := by have h2 := HLT.out; rw [List.length_drop, ← HLX.out, HL.out, HN.out]; omega
        match xs.drop n, h1 with
        | a :: b :: c :: d :: e :: f :: r, _ => exact ⟨a, b, c, d, e, f, r, rfl⟩
      have hsrc : (b64P xs).drop si = signP (a.toNat / 4) :: signP (a.toNat % 4 * 16 + b.toNat / 16) :: signP (b.toNat % 16 * 4 + c3.toNat / 64) :: signP (c3.toNat % 64) :: signP (d.toNat / 4) :: signP (d.toNat % 4 * 16 + e_.toNat / 16) :: signP (e_.toNat % 16 * 4 + f.toNat / 64) :: signP (f.toNat % 64) :: b64P r := by
        have h1 := b64P_drop (2 * k) xs (by have h2 := HLT.out; rw [← HLX.out, HL.out]; omega)
        rw [show 4 * (2 * k) = si by rw [HSI.out]; omega, show 3 * (2 * k) = n by rw [HN.out]; omega, hd6] at h1
        exact h1
      obtain ⟨A2, ys, hcut, hys, hyl, hyr⟩ := cut_mid (P := Tryz.prog) 28 5 .i64 .i64 Tryz.underlying28 hi0 hsz B cb (b64P xs) si (si + 8) (by omega) (by have h2 := HLT.out; rw [← HMX.out, HM.out, HSI.out]; omega) HCB.out
      have hyse : ys = [signP (a.toNat / 4), signP (a.toNat % 4 * 16 + b.toNat / 16), signP (b.toNat % 16 * 4 + c3.toNat / 64), signP (c3.toNat % 64), signP (d.toNat / 4), signP (d.toNat % 4 * 16 + e_.toNat / 16), signP (e_.toNat % 16 * 4 + f.toNat / 64), signP (f.toNat % 64)] := by
        rw [hys.out, List.drop_take, hsrc, show si + 8 - si = 8 by omega]
        rfl
      have hrw : RR (lit byteV) ok wr B (b64P xs) := HR.out.keep (lit_steady _) (HI.out.keep.mono fun b _ ho => hok b ho)
      have hry := hyr _ _ _ hrw
      subst hyse
      obtain ⟨d0, hd0⟩ : ∃ x : Nat, x = a.toNat / 4 := ⟨_, rfl⟩
      obtain ⟨d1, hd1⟩ : ∃ x : Nat, x = a.toNat % 4 * 16 + b.toNat / 16 := ⟨_, rfl⟩
      obtain ⟨d2, hd2⟩ : ∃ x : Nat, x = b.toNat % 16 * 4 + c3.toNat / 64 := ⟨_, rfl⟩
      obtain ⟨d3, hd3⟩ : ∃ x : Nat, x = c3.toNat % 64 := ⟨_, rfl⟩
      obtain ⟨d4, hd4⟩ : ∃ x : Nat, x = d.toNat / 4 := ⟨_, rfl⟩
      obtain ⟨d5, hd5⟩ : ∃ x : Nat, x = d.toNat % 4 * 16 + e_.toNat / 16 := ⟨_, rfl⟩
      obtain ⟨d6, hd6'⟩ : ∃ x : Nat, x = e_.toNat % 16 * 4 + f.toNat / 64 := ⟨_, rfl⟩
      obtain ⟨d7, hd7⟩ : ∃ x : Nat, x = f.toNat % 64 := ⟨_, rfl⟩
      rw [← hd0, ← hd1, ← hd2, ← hd3, ← hd4, ← hd5, ← hd6', ← hd7] at hry
      have ha := a.toNat_lt
      have hb' := b.toNat_lt
      have hc' := c3.toNat_lt
      have hdd := d.toNat_lt
      have he' := e_.toNat_lt
      have hf' := f.toNat_lt
      have g0 : d0 < 64 := by omega
      have g1 : d1 < 64 := by omega
      have g2 : d2 < 64 := by omega
      have g3 : d3 < 64 := by omega
      have g4 : d4 < 64 := by omega
      have g5 : d5 < 64 := by omega
      have g6 : d6 < 64 := by omega
      have g7 : d7 < 64 := by omega
      have hsum := six_sum a.toNat b.toNat c3.toNat d.toNat e_.toNat f.toNat ha hb' hc' hdd he' hf'
      rw [← hd0, ← hd1, ← hd2, ← hd3, ← hd4, ← hd5, ← hd6', ← hd7] at hsum
      obtain ⟨U, hU⟩ : ∃ U : Nat, U = (((((((d0 * 64 + d1) * 64 + d2) * 64 + d3) * 64 + d4) * 64 + d5) * 64 + d6) * 64 + d7) := ⟨_, rfl⟩
      have H6 := Lib.hid (six_bytes a.toNat b.toNat c3.toNat d.toNat e_.toNat f.toNat U ha hb' hc' hdd he' hf' (hU.trans hsum))
      have hA := fun W => asm64 W d0 d1 d2 d3 d4 d5 d6 d7 g0 g1 g2 g3 g4 g5 g6 g7
      rw [← hU] at hA
      clear hsum hU hd0 hd1 hd2 hd3 hd4 hd5 hd6' hd7
      obtain ⟨ad2, rfl, _, hcc, hcs⟩ := RB.spots hry (by simp)
      obtain ⟨s0, hs0⟩ : ∃ x : Nat, x = (signP d0).toNat := ⟨_, rfl⟩
      have u0 : s0 < 256 := by rw [hs0]; exact (signP d0).toNat_lt
      have cc0 : wr.cell? ad2 = some (.int .u8 (s0 : Int)) := by rw [hs0]; exact hcc 0 _ rfl
      have q0 : wr.cell? ⟨ge, 64 + s0, none⟩ = some (.int .u8 (d0 : Int)) := by rw [(HB.out.keep HI.out.keep hgg).cell, encC_map _ u0, hs0, dmap_sign g0]
      have v0 : ((s0 : Int) < 256) = True := eq_true (by omega)
      clear hs0
      obtain ⟨s1, hs1⟩ : ∃ x : Nat, x = (signP d1).toNat := ⟨_, rfl⟩
      have u1 : s1 < 256 := by rw [hs1]; exact (signP d1).toNat_lt
      have cc1 : wr.cell? ⟨ad2.block, ad2.off + 1, none⟩ = some (.int .u8 (s1 : Int)) := by rw [hs1]; exact hcs 1 _ rfl
      have q1 : wr.cell? ⟨ge, 64 + s1, none⟩ = some (.int .u8 (d1 : Int)) := by rw [(HB.out.keep HI.out.keep hgg).cell, encC_map _ u1, hs1, dmap_sign g1]
      have v1 : ((s1 : Int) < 256) = True := eq_true (by omega)
      clear hs1
      obtain ⟨s2, hs2⟩ : ∃ x : Nat, x = (signP d2).toNat := ⟨_, rfl⟩
      have u2 : s2 < 256 := by rw [hs2]; exact (signP d2).toNat_lt
      have cc2 : wr.cell? ⟨ad2.block, ad2.off + 2, none⟩ = some (.int .u8 (s2 : Int)) := by rw [hs2]; exact hcs 2 _ rfl
      have q2 : wr.cell? ⟨ge, 64 + s2, none⟩ = some (.int .u8 (d2 : Int)) := by rw [(HB.out.keep HI.out.keep hgg).cell, encC_map _ u2, hs2, dmap_sign g2]
      have v2 : ((s2 : Int) < 256) = True := eq_true (by omega)
      clear hs2
      obtain ⟨s3, hs3⟩ : ∃ x : Nat, x = (signP d3).toNat := ⟨_, rfl⟩
      have u3 : s3 < 256 := by rw [hs3]; exact (signP d3).toNat_lt
      have cc3 : wr.cell? ⟨ad2.block, ad2.off + 3, none⟩ = some (.int .u8 (s3 : Int)) := by rw [hs3]; exact hcs 3 _ rfl
      have q3 : wr.cell? ⟨ge, 64 + s3, none⟩ = some (.int .u8 (d3 : Int)) := by rw [(HB.out.keep HI.out.keep hgg).cell, encC_map _ u3, hs3, dmap_sign g3]
      have v3 : ((s3 : Int) < 256) = True := eq_true (by omega)
      clear hs3
      obtain ⟨s4, hs4⟩ : ∃ x : Nat, x = (signP d4).toNat := ⟨_, rfl⟩
      have u4 : s4 < 256 := by rw [hs4]; exact (signP d4).toNat_lt
      have cc4 : wr.cell? ⟨ad2.block, ad2.off + 4, none⟩ = some (.int .u8 (s4 : Int)) := by rw [hs4]; exact hcs 4 _ rfl
      have q4 : wr.cell? ⟨ge, 64 + s4, none⟩ = some (.int .u8 (d4 : Int)) := by rw [(HB.out.keep HI.out.keep hgg).cell, encC_map _ u4, hs4, dmap_sign g4]
      have v4 : ((s4 : Int) < 256) = True := eq_true (by omega)
      clear hs4
      obtain ⟨s5, hs5⟩ : ∃ x : Nat, x = (signP d5).toNat := ⟨_, rfl⟩
      have u5 : s5 < 256 := by rw [hs5]; exact (signP d5).toNat_lt
      have cc5 : wr.cell? ⟨ad2.block, ad2.off + 5, none⟩ = some (.int .u8 (s5 : Int)) := by rw [hs5]; exact hcs 5 _ rfl
      have q5 : wr.cell? ⟨ge, 64 + s5, none⟩ = some (.int .u8 (d5 : Int)) := by rw [(HB.out.keep HI.out.keep hgg).cell, encC_map _ u5, hs5, dmap_sign g5]
      have v5 : ((s5 : Int) < 256) = True := eq_true (by omega)
      clear hs5
      obtain ⟨s6, hs6⟩ : ∃ x : Nat, x = (signP d6).toNat := ⟨_, rfl⟩
      have u6 : s6 < 256 := by rw [hs6]; exact (signP d6).toNat_lt
      have cc6 : wr.cell? ⟨ad2.block, ad2.off + 6, none⟩ = some (.int .u8 (s6 : Int)) := by rw [hs6]; exact hcs 6 _ rfl
      have q6 : wr.cell? ⟨ge, 64 + s6, none⟩ = some (.int .u8 (d6 : Int)) := by rw [(HB.out.keep HI.out.keep hgg).cell, encC_map _ u6, hs6, dmap_sign g6]
      have v6 : ((s6 : Int) < 256) = True := eq_true (by omega)
      clear hs6
      obtain ⟨s7, hs7⟩ : ∃ x : Nat, x = (signP d7).toNat := ⟨_, rfl⟩
      have u7 : s7 < 256 := by rw [hs7]; exact (signP d7).toNat_lt
      have cc7 : wr.cell? ⟨ad2.block, ad2.off + 7, none⟩ = some (.int .u8 (s7 : Int)) := by rw [hs7]; exact hcs 7 _ rfl
      have q7 : wr.cell? ⟨ge, 64 + s7, none⟩ = some (.int .u8 (d7 : Int)) := by rw [(HB.out.keep HI.out.keep hgg).cell, encC_map _ u7, hs7, dmap_sign g7]
      have v7 : ((s7 : Int) < 256) = True := eq_true (by omega)
      clear hs7
      have HA := Lib.hid hA
      have hcd := cut_dst gd L n (by have h2 := HLT.out; rw [HL.out, HN.out]; omega)
      have hcut' : ∀ W : World, (Instr.slice 28 (.slice B M cb) (some (.int .i64 (si : Int))) (some (.int .i64 ((si : Int) + 8))) none).run Tryz.prog W = .ok (.slice (some ad2) 8 (cb - si)) W := by
        have := hcut
        rw [← HMX.out] at this
        exact this
      have HP := Lib.hid (fun W (hW : Blk W gd 5 cs) => bePut64 W gd n (L - n) (L - n) cs (U * 65536) H6.out.1 hW (by have h2 := HLT.out; rw [HL.out, HN.out]; omega) (by have h2 := HLT.out; rw [HI.out.size, ← HLX.out, HL.out, HN.out]; omega))
      rw [show ((U * 65536 : Nat) : Int) = (U : Int) * 65536 from Int.natCast_mul _ _] at HP
      have HD6 := Lib.hid hd6
      clear hcc hcs hry hrw hyr hys hcut hsrc hd6 hA ha hb' hc' hdd he' hf' hi0 hsz hyl
      go_wp2_with fail
      simp only [List.append_eq, List.cons_append, List.nil_append, List.append]
      go_quiet (exact (HA.out _).mono (fun e w' h => ⟨h.1, _, h.2⟩))
      go_wp2_with (go_at_call 121; refine (HP.out _ (show Blk (wr.drewN nq) gd _ _ from HI.out.blk)).mono ?_; rintro e w3 ⟨rfl, hk3, cs3, hb3, hs3, hl3, e0, e1, e2, e3, e4, e5⟩; have HF := Lib.hid (And.intro hk3 (And.intro hb3 (And.intro hs3 (And.intro hl3 (And.intro e0 (And.intro e1 (And.intro e2 (And.intro e3 (And.intro e4 e5))))))))); clear hk3 hb3 hs3 hl3 e0 e1 e2 e3 e4 e5)
      go_roundg (gk - 1)
      case measure => have h1 := hgk.out; have h2 := HLT.out; omega
      case rel =>
        obtain ⟨hk3, hb3, hs3, hl3, e0, e1, e2, e3, e4, e5⟩ := HF.out
        obtain ⟨_, b0, b1, b2, b3, b4, b5⟩ := H6.out
        rw [b0] at e0
        rw [b1] at e1
        rw [b2] at e2
        rw [b3] at e3
        rw [b4] at e4
        rw [b5] at e5
        have hd6 := HD6.out
        have y0 : xs[n]? = some a := by have := congrArg (·[0]?) hd6; simpa using this
        have y1 : xs[n + 1]? = some b := by have := congrArg (·[1]?) hd6; simpa using this
        have y2 : xs[n + 2]? = some c3 := by have := congrArg (·[2]?) hd6; simpa using this
        have y3 : xs[n + 3]? = some d := by have := congrArg (·[3]?) hd6; simpa using this
        have y4 : xs[n + 4]? = some e_ := by have := congrArg (·[4]?) hd6; simpa using this
        have y5 : xs[n + 5]? = some f := by have := congrArg (·[5]?) hd6; simpa using this
        have hDI := HI.out.more (m := 6) (((Keep.refl (but gd) wr).drewN nq).trans hk3) hb3 hs3 hl3 (fun j x hj hx => by
          match j, hj with
          | 0, _ => obtain rfl : a = x := Option.some.inj (y0.symm.trans hx); exact e0
          | 1, _ => obtain rfl : b = x := Option.some.inj (y1.symm.trans hx); exact e1
          | 2, _ => obtain rfl : c3 = x := Option.some.inj (y2.symm.trans hx); exact e2
          | 3, _ => obtain rfl : d = x := Option.some.inj (y3.symm.trans hx); exact e3
          | 4, _ => obtain rfl : e_ = x := Option.some.inj (y4.symm.trans hx); exact e4
          | 5, _ => obtain rfl : f = x := Option.some.inj (y5.symm.trans hx); exact e5)
        have hg := hgk.out
        have h2 := HLT.out
        have h3 := HSI.out
        have h4 := HN.out
        have h5 := HM.out
        have h6 := HL.out
        clear e0 e1 e2 e3 e4 e5 b0 b1 b2 b3 b4 b5
        exact ⟨k + 1, si + 8, n + 6, cs3, by rw [Int.natCast_add]; rfl, rfl, by rw [Int.natCast_add]; rfl, by omega, by omega, show _ ≤ _ by omega, show _ = _ by omega, show _ = _ by omega, show _ = _ by omega, hDI⟩
    · have hke : k = p := by have := hkp.out; omega
      subst hke
      have t1 : ((8 : Int) ≤ (M : Int) - (si : Int)) = False := eq_false (by have h1 := HM.out; have h2 := HSI.out; omega)
      have t3 : ((4 : Int) ≤ (M : Int) - (si : Int)) = True := eq_true (by have h1 := HM.out; have h2 := HSI.out; omega)
      have t4 : ((4 : Int) ≤ (L : Int) - (n : Int)) = False := eq_false (by have h1 := HL.out; have h2 := HN.out; omega)
      clear hlt
      go_wp2_with fail
      refine wp_loop_rounds 1 ?_
      rw [rounds_succ]
      go_wp2_with fail
      refine wp_loop_rounds 2 ?_
      rw [rounds_succ]
      have t5 : ((si : Int) < (M : Int)) = True := eq_true (by have h1 := HM.out; have h2 := HSI.out; omega)
      have t6 : ((si : Int) + 4 < (M : Int)) = False := eq_false (by have h1 := HM.out; have h2 := HSI.out; omega)
      obtain ⟨a, b, c3, hd3⟩ : ∃ a b c, xs.drop n = [a, b, c] := by
        have h1 : (xs.drop n).length = 3 := by rw [List.length_drop, ← HLX.out, HL.out, HN.out]; omega
        match xs.drop n, h1 with
        | [a, b, c], _ => exact ⟨a, b, c, rfl⟩
      have hsrc : (b64P xs).drop si = [signP (a.toNat / 4), signP (a.toNat % 4 * 16 + b.toNat / 16), signP (b.toNat % 16 * 4 + c3.toNat / 64), signP (c3.toNat % 64)] := by
        have h1 := b64P_drop (2 * k) xs (by rw [← HLX.out, HL.out]; omega)
        rw [show 4 * (2 * k) = si by rw [HSI.out]; omega, show 3 * (2 * k) = n by rw [HN.out]; omega, hd3] at h1
        exact h1
      have hrw : RR (lit byteV) ok wr B (b64P xs) := HR.out.keep (lit_steady _) (HI.out.keep.mono fun b _ ho => hok b ho)
      obtain ⟨ad, rfl, _, hcc, hcs⟩ := RB.spots hrw (by rw [← HMX.out, HM.out]; omega)
      have x0 : (b64P xs)[si]? = some (signP (a.toNat / 4)) := by have := congrArg (·[0]?) hsrc; simpa using this
      have x1 : (b64P xs)[si + 1]? = some (signP (a.toNat % 4 * 16 + b.toNat / 16)) := by have := congrArg (·[1]?) hsrc; simpa using this
      have x2 : (b64P xs)[si + 2]? = some (signP (b.toNat % 16 * 4 + c3.toNat / 64)) := by have := congrArg (·[2]?) hsrc; simpa using this
      have x3 : (b64P xs)[si + 3]? = some (signP (c3.toNat % 64)) := by have := congrArg (·[3]?) hsrc; simpa using this
      have ha := a.toNat_lt
      have hb' := b.toNat_lt
      have hc' := c3.toNat_lt
      have hcd := cut_dst gd L n (by rw [HL.out, HN.out]; omega)
      have hbw : Blk wr ge 177 encC := HB.out.keep HI.out.keep hgg
      have HQ := Lib.hid (dq_full wr ge gd n (L - n) (L - n) M cb si ad cs _ _ _ _ (by omega) (by omega) (by omega) (by omega) hbw HI.out.blk (by rw [HL.out, HN.out]; omega) (by rw [HI.out.size, ← HLX.out, HL.out, HN.out]; omega) (by rw [HM.out, HSI.out]; omega) (by omega) (hcc si _ x0) (hcs (si + 1) _ x1) (hcs (si + 2) _ x2) (hcs (si + 3) _ x3))
      have y0 : xs[n]? = some a := by have := congrArg (·[0]?) hd3; simpa using this
      have y1 : xs[n + 1]? = some b := by have := congrArg (·[1]?) hd3; simpa using this
      have y2 : xs[n + 2]? = some c3 := by have := congrArg (·[2]?) hd3; simpa using this
      have Y := Lib.hid (And.intro y0 (And.intro y1 y2))
      have H3 := Lib.hid (And.intro ha (And.intro hb' hc'))
      clear hsrc hrw hcc hcs x0 x1 x2 x3 hbw y0 y1 y2 ha hb' hc' hd3
      go_wp2_with (go_at_call 122; refine HQ.out.mono ?_; rintro e w2 ⟨rfl, hk2, hb2⟩; have HK2 := Lib.hid hk2; have HB2 := Lib.hid hb2; clear hk2 hb2)
      rw [rounds_succ]
      go_wp2_with fail
      go_ret2
      have hL3 : L = n + 3 := by rw [HL.out, HN.out]
      have hDI := HI.out.more (m := 3) HK2.out HB2.out (by simp only [Array.size_setIfInBounds]) (fun i hi => by rw [Array.getElem?_setIfInBounds_ne (by omega), Array.getElem?_setIfInBounds_ne (by omega), Array.getElem?_setIfInBounds_ne (by omega)]) (fun j x hj hx => by
        obtain ⟨y0, y1, y2⟩ := Y.out
        obtain ⟨ha, hb', hc'⟩ := H3.out
        have hcs3 : n + 3 ≤ cs.size := by rw [HI.out.size, ← HLX.out, hL3]; exact Nat.le_refl _
        match j, hj with
        | 0, _ =>
          obtain rfl : a = x := Option.some.inj (y0.symm.trans hx)
          rw [show n + 0 = n from rfl, set_at' (by simp only [Array.size_setIfInBounds]; omega), byte_of (a := a) (by omega)]
        | 1, _ =>
          obtain rfl : b = x := Option.some.inj (y1.symm.trans hx)
          rw [Array.getElem?_setIfInBounds_ne (by omega), set_at' (by simp only [Array.size_setIfInBounds]; omega), byte_of (a := b) (by omega)]
        | 2, _ =>
          obtain rfl : c3 = x := Option.some.inj (y2.symm.trans hx)
          rw [Array.getElem?_setIfInBounds_ne (by omega), Array.getElem?_setIfInBounds_ne (by omega), set_at' (by omega), byte_of (a := c3) (by omega)])
      refine ⟨?_, hDI.keep, hDI.end_ (by rw [← HLX.out, hL3])⟩
      rw [hL3, Int.natCast_add]
      rfl

end Go.Proofs.YtoeepfmmceilaaaGreatDoor
