/- base64's Encode into a block. -/
import Derived.Test.YtoeepfmmceilaaaGreatDoorLnDec
import Derived.Test.YtoeepfmmceilaaaGreatDoorLnMInt
set_option linter.unusedVariables false
set_option linter.unusedSimpArgs false
namespace Go.Proofs.YtoeepfmmceilaaaGreatDoor
open Go.RowKit

def signL : List Value := (List.range 64).map (fun k => byteV (signP k))
theorem load_signs {w : World} {g : Nat} (hb : Blk w g 177 encC) : w.rangeAt g 0 signL := by
  intro j v hv
  unfold signL at hv
  obtain ⟨h, hv⟩ := List.getElem?_eq_some_iff.1 hv
  rw [List.length_map, List.length_range] at h
  rw [hb.cell, Nat.zero_add, encC_sign j h, ← hv]
  simp
theorem size_signs : (Tryz.prog.info? 174).map (·.size) = some signL.length := by kernel_rfl
theorem PutIn.one {cs cs' : Array Value} {o : Nat} {l : List UInt8} (h : PutIn cs cs' o l) (x : UInt8) (hs : o + l.length < cs.size) : PutIn cs (cs'.setIfInBounds (o + l.length) (byteV x)) o (l ++ [x]) := by
  refine ⟨by simp [h.size], fun i hi => ?_, fun i y hy => ?_⟩
  · rw [Array.getElem?_setIfInBounds, if_neg (by omega)]
    exact h.lo i hi
  · by_cases hi : i < l.length
    · rw [List.getElem?_append_left hi] at hy
      rw [Array.getElem?_setIfInBounds, if_neg (by omega)]
      exact h.put i y hy
    · rw [List.getElem?_append_right (by omega)] at hy
      have h0 : i - l.length = 0 := by
        have := (List.getElem?_eq_some_iff.1 hy).1
        simp at this
        omega
      rw [h0] at hy
      obtain rfl : x = y := Option.some.inj hy
      rw [show o + i = o + l.length by omega, Array.getElem?_setIfInBounds, if_pos rfl, if_pos (by rw [h.size]; exact hs)]
theorem PutIn.nil (cs : Array Value) (o : Nat) : PutIn cs cs o [] := ⟨rfl, fun _ _ => rfl, fun i x h => by simp at h⟩
/-- The rest of a row behind m. -/
theorem slice_from_d {P : Program} (t e : TypeId) {i : TypeInfo} (ht : P.underlying t = some (.slice e)) (hi : P.info? e = some i) (hsz : i.size = 1) (g o n c m : Nat) (hm : m ≤ n) (hc : n ≤ c) :
    ∃ D : Option Addr, (∀ W : World, (Instr.slice t (.slice (some ⟨g, o, none⟩) n c) (some (.int .i64 (m : Int))) none none).run P W = .ok (.slice D (n - m) (c - m)) W) ∧ (n - m ≠ 0 → D = some ⟨g, o + m, none⟩) := by
  by_cases h : m < n
  · exact ⟨_, fun W => slice_from_o (P := P) t e ht hi hsz g o n c m h hc W, fun _ => rfl⟩
  · obtain ⟨A', h1⟩ := slice_from_x (P := P) t e ht hi hsz (some ⟨g, o, none⟩) n c m hm hc
    exact ⟨A', h1, fun h0 => absurd (show n - m = 0 by omega) h0⟩
theorem or_hi (a b : Nat) (ha : a < 256) (hb : b < 256) : bits .or .u64 ((a : Int) * 65536) ((b : Int) * 256) = ((a * 65536 + b * 256 : Nat) : Int) := by
  have e1 : ((a * 65536 : Nat) : Int) = (a : Int) * 65536 := Int.natCast_mul _ _
  have e2 : ((b * 256 : Nat) : Int) = (b : Int) * 256 := Int.natCast_mul _ _
  have h1 := u64_or_nat (a * 65536) (b * 256) (by omega) (by omega)
  have hq : b * 256 < 2 ^ 16 := Nat.lt_of_lt_of_eq (show b * 256 < 65536 by omega) (by decide)
  have h2 := nat_or_add a (b * 256) 16 hq
  rw [(by decide : (2 : Nat) ^ 16 = 65536)] at h2
  rw [h2] at h1
  rw [e1, e2] at h1
  exact h1
theorem or_lo (a b c : Nat) (ha : a < 256) (hb : b < 256) (hc : c < 256) : bits .or .u64 ((a * 65536 + b * 256 : Nat) : Int) (c : Int) = ((a * 65536 + b * 256 + c : Nat) : Int) := by
  have h1 := u64_or_nat (a * 65536 + b * 256) c (by omega) (by omega)
  have h2 : (a * 256 + b) * 256 ||| c = (a * 256 + b) * 256 + c := nat_or_add (a * 256 + b) c 8 hc
  rw [show a * 65536 + b * 256 = (a * 256 + b) * 256 by omega] at h1 ⊢
  rw [h2] at h1
  exact h1
/-- What Encode keeps while it goes. -/
structure EncI (w wr : World) (gd o : Nat) (t : TypeId) (cs0 : Array Value) (out : List UInt8) (cs : Array Value) : Prop where
  blk : Blk wr gd t cs
  put : PutIn cs0 cs o out
  keep : Keep (but gd) w wr
theorem EncI.one {w wr : World} {gd o O : Nat} {t : TypeId} {cs0 cs : Array Value} {out : List UInt8} (h : EncI w wr gd o t cs0 out cs) (hO : O = o + out.length) (x : UInt8) (s : Nat) (hs : s = x.toNat) (hsz : O < cs0.size) :
    EncI w (wr.setCell ⟨gd, O, none⟩ (.int .u8 (s : Int))) gd o t cs0 (out ++ [x]) (cs.setIfInBounds (o + out.length) (byteV x)) := by
  subst hO hs
  exact ⟨h.blk.set_ _ _, h.put.one x hsz, h.keep.trans ((Keep.refl _ _).setCell (fun _ hn => hn rfl) _)⟩
theorem EncI.drewN {w wr : World} {gd o : Nat} {t : TypeId} {cs0 cs : Array Value} {out : List UInt8} (h : EncI w wr gd o t cs0 out cs) (k : Nat) : EncI w (wr.drewN k) gd o t cs0 out cs := ⟨h.blk, h.put, h.keep.trans ((Keep.refl _ _).drewN _)⟩
theorem pad_byte : IntKind.u8.wrap 61 = 61 := by decide

set_option maxRecDepth 100000 in
set_option maxHeartbeats 3200000 in
theorem encode_walk (ge gd o dl dc : Nat) (t : TypeId) (cs0 : Array Value) (A : Option Addr) (c : Nat) (xs : List UInt8) (w : World) (hl : xs.length ≤ 100000) (hc : xs.length ≤ c)
    (hb : Blk w ge 177 encC) (hd : Blk w gd t cs0) (hgg : ge ≠ gd) (hdl : (b64P xs).length ≤ dl) (hdc : dl ≤ dc) (hcs : o + dl ≤ cs0.size) (hlim : dl ≤ 1000000)
    (hsrc : ∀ W cs', Blk W gd t cs' → cs'.size = cs0.size → (∀ i, i < o → cs'[i]? = cs0[i]?) → Keep (but gd) w W → RR (lit byteV) all_ W A xs) :
    Calls Tryz.prog 138 #[.pointer (some ⟨ge, 0, none⟩), .slice (some ⟨gd, o, none⟩) dl dc, .slice A xs.length c] w fun e w' => e = .returned (.tuple #[]) ∧ ∃ cs', Blk w' gd t cs' ∧ PutIn cs0 cs' o (b64P xs) ∧ Keep (but gd) w w' := by
  have HB := Lib.hid hb
  have HX := Lib.hid (load_signs hb)
  have HG := Lib.hid hgg
  have HI0 := Lib.hid (show EncI w w gd o t cs0 [] cs0 from ⟨hd, PutIn.nil _ _, Keep.refl _ _⟩)
  have HS := Lib.hid hsrc
  have HD0 := Lib.hid (And.intro hdl (And.intro hdc hcs))
  obtain ⟨N, hN⟩ : ∃ N, N = xs.length := ⟨_, rfl⟩
  rw [← hN] at hl hc ⊢
  have HN := Lib.hid hN
  clear hb hgg hd hsrc hdl hdc hcs hN
  go_enter Tryz.func138, Tryz.ntmps138
  by_cases hz : N = 0
  · subst hz
    go_wp2_with fail
    refine bodyPost_ret (v := .tuple #[]) (by simp [results, Tryz.results138, go_sem]) rfl ?_
    have h0 : xs = [] := List.eq_nil_of_length_eq_zero HN.out.symm
    subst h0
    exact ⟨rfl, cs0, HI0.out.blk, PutIn.nil _ _, Keep.refl _ _⟩
  have hz2 : ((N : Int) == 0) = false := by simp only [beq_eq_false_iff_ne, ne_eq]; omega
  have e0 : w.cell? ⟨ge, 0, none⟩ = some (.int .u8 65) := (HB.out.cell 0).trans (encC_sign 0 (by decide))
  have e1 : w.cell? ⟨ge, 1, none⟩ = some (.int .u8 66) := (HB.out.cell 1).trans (encC_sign 1 (by decide))
  have e2 : w.cell? ⟨ge, 2, none⟩ = some (.int .u8 67) := (HB.out.cell 2).trans (encC_sign 2 (by decide))
  have e3 : w.cell? ⟨ge, 3, none⟩ = some (.int .u8 68) := (HB.out.cell 3).trans (encC_sign 3 (by decide))
  have e4 : w.cell? ⟨ge, 4, none⟩ = some (.int .u8 69) := (HB.out.cell 4).trans (encC_sign 4 (by decide))
  have e5 : w.cell? ⟨ge, 5, none⟩ = some (.int .u8 70) := (HB.out.cell 5).trans (encC_sign 5 (by decide))
  have e6 : w.cell? ⟨ge, 6, none⟩ = some (.int .u8 71) := (HB.out.cell 6).trans (encC_sign 6 (by decide))
  have e7 : w.cell? ⟨ge, 7, none⟩ = some (.int .u8 72) := (HB.out.cell 7).trans (encC_sign 7 (by decide))
  have e8 : w.cell? ⟨ge, 8, none⟩ = some (.int .u8 73) := (HB.out.cell 8).trans (encC_sign 8 (by decide))
  have e9 : w.cell? ⟨ge, 9, none⟩ = some (.int .u8 74) := (HB.out.cell 9).trans (encC_sign 9 (by decide))
  have e10 : w.cell? ⟨ge, 10, none⟩ = some (.int .u8 75) := (HB.out.cell 10).trans (encC_sign 10 (by decide))
  have e11 : w.cell? ⟨ge, 11, none⟩ = some (.int .u8 76) := (HB.out.cell 11).trans (encC_sign 11 (by decide))
  have e12 : w.cell? ⟨ge, 12, none⟩ = some (.int .u8 77) := (HB.out.cell 12).trans (encC_sign 12 (by decide))
  have e13 : w.cell? ⟨ge, 13, none⟩ = some (.int .u8 78) := (HB.out.cell 13).trans (encC_sign 13 (by decide))
  have e14 : w.cell? ⟨ge, 14, none⟩ = some (.int .u8 79) := (HB.out.cell 14).trans (encC_sign 14 (by decide))
  have e15 : w.cell? ⟨ge, 15, none⟩ = some (.int .u8 80) := (HB.out.cell 15).trans (encC_sign 15 (by decide))
  have e16 : w.cell? ⟨ge, 16, none⟩ = some (.int .u8 81) := (HB.out.cell 16).trans (encC_sign 16 (by decide))
  have e17 : w.cell? ⟨ge, 17, none⟩ = some (.int .u8 82) := (HB.out.cell 17).trans (encC_sign 17 (by decide))
  have e18 : w.cell? ⟨ge, 18, none⟩ = some (.int .u8 83) := (HB.out.cell 18).trans (encC_sign 18 (by decide))
  have e19 : w.cell? ⟨ge, 19, none⟩ = some (.int .u8 84) := (HB.out.cell 19).trans (encC_sign 19 (by decide))
  have e20 : w.cell? ⟨ge, 20, none⟩ = some (.int .u8 85) := (HB.out.cell 20).trans (encC_sign 20 (by decide))
  have e21 : w.cell? ⟨ge, 21, none⟩ = some (.int .u8 86) := (HB.out.cell 21).trans (encC_sign 21 (by decide))
  have e22 : w.cell? ⟨ge, 22, none⟩ = some (.int .u8 87) := (HB.out.cell 22).trans (encC_sign 22 (by decide))
  have e23 : w.cell? ⟨ge, 23, none⟩ = some (.int .u8 88) := (HB.out.cell 23).trans (encC_sign 23 (by decide))
  have e24 : w.cell? ⟨ge, 24, none⟩ = some (.int .u8 89) := (HB.out.cell 24).trans (encC_sign 24 (by decide))
  have e25 : w.cell? ⟨ge, 25, none⟩ = some (.int .u8 90) := (HB.out.cell 25).trans (encC_sign 25 (by decide))
  have e26 : w.cell? ⟨ge, 26, none⟩ = some (.int .u8 97) := (HB.out.cell 26).trans (encC_sign 26 (by decide))
  have e27 : w.cell? ⟨ge, 27, none⟩ = some (.int .u8 98) := (HB.out.cell 27).trans (encC_sign 27 (by decide))
  have e28 : w.cell? ⟨ge, 28, none⟩ = some (.int .u8 99) := (HB.out.cell 28).trans (encC_sign 28 (by decide))
  have e29 : w.cell? ⟨ge, 29, none⟩ = some (.int .u8 100) := (HB.out.cell 29).trans (encC_sign 29 (by decide))
  have e30 : w.cell? ⟨ge, 30, none⟩ = some (.int .u8 101) := (HB.out.cell 30).trans (encC_sign 30 (by decide))
  have e31 : w.cell? ⟨ge, 31, none⟩ = some (.int .u8 102) := (HB.out.cell 31).trans (encC_sign 31 (by decide))
  have e32 : w.cell? ⟨ge, 32, none⟩ = some (.int .u8 103) := (HB.out.cell 32).trans (encC_sign 32 (by decide))
  have e33 : w.cell? ⟨ge, 33, none⟩ = some (.int .u8 104) := (HB.out.cell 33).trans (encC_sign 33 (by decide))
  have e34 : w.cell? ⟨ge, 34, none⟩ = some (.int .u8 105) := (HB.out.cell 34).trans (encC_sign 34 (by decide))
  have e35 : w.cell? ⟨ge, 35, none⟩ = some (.int .u8 106) := (HB.out.cell 35).trans (encC_sign 35 (by decide))
  have e36 : w.cell? ⟨ge, 36, none⟩ = some (.int .u8 107) := (HB.out.cell 36).trans (encC_sign 36 (by decide))
  have e37 : w.cell? ⟨ge, 37, none⟩ = some (.int .u8 108) := (HB.out.cell 37).trans (encC_sign 37 (by decide))
  have e38 : w.cell? ⟨ge, 38, none⟩ = some (.int .u8 109) := (HB.out.cell 38).trans (encC_sign 38 (by decide))
  have e39 : w.cell? ⟨ge, 39, none⟩ = some (.int .u8 110) := (HB.out.cell 39).trans (encC_sign 39 (by decide))
  have e40 : w.cell? ⟨ge, 40, none⟩ = some (.int .u8 111) := (HB.out.cell 40).trans (encC_sign 40 (by decide))
  have e41 : w.cell? ⟨ge, 41, none⟩ = some (.int .u8 112) := (HB.out.cell 41).trans (encC_sign 41 (by decide))
  have e42 : w.cell? ⟨ge, 42, none⟩ = some (.int .u8 113) := (HB.out.cell 42).trans (encC_sign 42 (by decide))
  have e43 : w.cell? ⟨ge, 43, none⟩ = some (.int .u8 114) := (HB.out.cell 43).trans (encC_sign 43 (by decide))
  have e44 : w.cell? ⟨ge, 44, none⟩ = some (.int .u8 115) := (HB.out.cell 44).trans (encC_sign 44 (by decide))
  have e45 : w.cell? ⟨ge, 45, none⟩ = some (.int .u8 116) := (HB.out.cell 45).trans (encC_sign 45 (by decide))
  have e46 : w.cell? ⟨ge, 46, none⟩ = some (.int .u8 117) := (HB.out.cell 46).trans (encC_sign 46 (by decide))
  have e47 : w.cell? ⟨ge, 47, none⟩ = some (.int .u8 118) := (HB.out.cell 47).trans (encC_sign 47 (by decide))
  have e48 : w.cell? ⟨ge, 48, none⟩ = some (.int .u8 119) := (HB.out.cell 48).trans (encC_sign 48 (by decide))
  have e49 : w.cell? ⟨ge, 49, none⟩ = some (.int .u8 120) := (HB.out.cell 49).trans (encC_sign 49 (by decide))
  have e50 : w.cell? ⟨ge, 50, none⟩ = some (.int .u8 121) := (HB.out.cell 50).trans (encC_sign 50 (by decide))
  have e51 : w.cell? ⟨ge, 51, none⟩ = some (.int .u8 122) := (HB.out.cell 51).trans (encC_sign 51 (by decide))
  have e52 : w.cell? ⟨ge, 52, none⟩ = some (.int .u8 48) := (HB.out.cell 52).trans (encC_sign 52 (by decide))
  have e53 : w.cell? ⟨ge, 53, none⟩ = some (.int .u8 49) := (HB.out.cell 53).trans (encC_sign 53 (by decide))
  have e54 : w.cell? ⟨ge, 54, none⟩ = some (.int .u8 50) := (HB.out.cell 54).trans (encC_sign 54 (by decide))
  have e55 : w.cell? ⟨ge, 55, none⟩ = some (.int .u8 51) := (HB.out.cell 55).trans (encC_sign 55 (by decide))
  have e56 : w.cell? ⟨ge, 56, none⟩ = some (.int .u8 52) := (HB.out.cell 56).trans (encC_sign 56 (by decide))
  have e57 : w.cell? ⟨ge, 57, none⟩ = some (.int .u8 53) := (HB.out.cell 57).trans (encC_sign 57 (by decide))
  have e58 : w.cell? ⟨ge, 58, none⟩ = some (.int .u8 54) := (HB.out.cell 58).trans (encC_sign 58 (by decide))
  have e59 : w.cell? ⟨ge, 59, none⟩ = some (.int .u8 55) := (HB.out.cell 59).trans (encC_sign 59 (by decide))
  have e60 : w.cell? ⟨ge, 60, none⟩ = some (.int .u8 56) := (HB.out.cell 60).trans (encC_sign 60 (by decide))
  have e61 : w.cell? ⟨ge, 61, none⟩ = some (.int .u8 57) := (HB.out.cell 61).trans (encC_sign 61 (by decide))
  have e62 : w.cell? ⟨ge, 62, none⟩ = some (.int .u8 43) := (HB.out.cell 62).trans (encC_sign 62 (by decide))
  have e63 : w.cell? ⟨ge, 63, none⟩ = some (.int .u8 47) := (HB.out.cell 63).trans (encC_sign 63 (by decide))
  go_wp2_with fail
  refine wp_load_mid 174 (.tmp 14) rfl ge 0 rfl signL (.array 64 5) HX.out Tryz.underlying174 rfl size_signs ?_
  rename_i hK
  refine hK _ _ ?_
  clear hK e0 e1 e2 e3 e4 e5 e6 e7 e8 e9 e10 e11 e12 e13 e14 e15 e16 e17 e18 e19 e20 e21 e22 e23 e24 e25 e26 e27 e28 e29 e30 e31 e32 e33 e34 e35 e36 e37 e38 e39 e40 e41 e42 e43 e44 e45 e46 e47 e48 e49 e50 e51 e52 e53 e54 e55 e56 e57 e58 e59 e60 e61 e62 e63
  go_wp2_with fail
  simp only [Act.put, List.setIfInBounds_toArray, List.set_cons_succ, List.set_cons_zero, List.set]
  have hzl : N + 1 ≤ 100001 := by omega
  obtain ⟨i0, hi0, _, hsz, _⟩ := info_parts info_u8
  go_loopg [1, 2, 6] (N + 1) (fun gk v1 v2 v6 wr => ∃ (O n dn dc2 c2 : Nat) (D A2 : Option Addr) (ys out : List UInt8) (cs : Array Value), v1 = .slice D dn dc2 ∧ v2 = .slice A2 n c2 ∧ n ≤ c2 ∧ n ≤ 100000 ∧ dn ≤ 1000000 ∧ Hid (n = ys.length) ∧ Hid (dn ≠ 0 → D = some ⟨gd, O, none⟩) ∧ Hid (O = o + out.length ∧ (b64P ys).length ≤ dn ∧ dn ≤ dc2 ∧ O + dn ≤ cs0.size) ∧ Hid (out ++ b64P ys = b64P xs) ∧ Hid (n < gk) ∧
    Hid (∀ W cs', Blk W gd t cs' → cs'.size = cs0.size → (∀ i, i < o → cs'[i]? = cs0[i]?) → Keep (but gd) w W → RR (lit byteV) all_ W A2 ys) ∧ Hid (EncI w wr gd o t cs0 out cs))
  case atStart => exact ⟨o, N, dl, dc, c, some ⟨gd, o, none⟩, A, xs, [], cs0, rfl, rfl, hc, hl, hlim, HN.out, fun _ => rfl, ⟨rfl, HD0.out.1, HD0.out.2.1, HD0.out.2.2⟩, rfl, Nat.lt_succ_self _, HS.out, HI0⟩
  case round =>
    clear HI0 HS HN hz hz2 hc hl hlim
    obtain ⟨O, n, dn, dc2, c2, D, A2, ys, out, cs, rfl, rfl, hnc, hnl, hdl, HN, HD, HO, HY, hgk, HS, HI⟩ := hrel
    have hrr := HS.out _ _ HI.out.blk HI.out.put.size HI.out.put.lo HI.out.keep
    have hge : ∀ k, k < 64 → wr.cell? ⟨ge, k, none⟩ = some (byteV (signP k)) := fun k hk => by rw [(HB.out.keep HI.out.keep HG.out).cell, encC_sign k hk]
    by_cases h3 : 3 ≤ n
    ·
      obtain ⟨a, b, c3, r, hd⟩ : ∃ a b c r, ys = a :: b :: c :: r := by
        have h1 : 3 ≤ ys.length := by rw [← HN.out]; exact h3
        match ys, h1 with
        | a :: b :: c :: r, _ => exact ⟨a, b, c, r, rfl⟩
      have x0 : ys[0]? = some a := by rw [hd]; rfl
      have x1 : ys[1]? = some b := by rw [hd]; rfl
      have x2 : ys[2]? = some c3 := by rw [hd]; rfl
      obtain ⟨ad, rfl, _, hcc, hcs⟩ := RB.spots hrr (by rw [← HN.out]; omega)
      have c0 : wr.cell? ad = some (.int .u8 (a.toNat : Int)) := hcc 0 a x0
      have c1 : wr.cell? ⟨ad.block, ad.off + 1, none⟩ = some (.int .u8 (b.toNat : Int)) := hcs 1 b x1
      have c2' : wr.cell? ⟨ad.block, ad.off + 2, none⟩ = some (.int .u8 (c3.toNat : Int)) := hcs 2 c3 x2
      have ha := a.toNat_lt
      have hb' := b.toNat_lt
      have hc' := c3.toNat_lt
      have o2 := or_hi a.toNat b.toNat ha hb'
      have o3 := or_lo a.toNat b.toNat c3.toNat ha hb' hc'
      obtain ⟨V2, hV2⟩ : ∃ V : Nat, V = a.toNat * 65536 + b.toNat * 256 := ⟨_, rfl⟩
      rw [← hV2] at o2 o3
      obtain ⟨V, hV⟩ : ∃ V : Nat, V = V2 + c3.toNat := ⟨_, rfl⟩
      rw [← hV] at o3
      obtain ⟨d0, hd0⟩ : ∃ d : Nat, d = a.toNat / 4 := ⟨_, rfl⟩
      obtain ⟨d1, hd1⟩ : ∃ d : Nat, d = a.toNat % 4 * 16 + b.toNat / 16 := ⟨_, rfl⟩
      obtain ⟨d2, hd2⟩ : ∃ d : Nat, d = b.toNat % 16 * 4 + c3.toNat / 64 := ⟨_, rfl⟩
      obtain ⟨d3, hd3⟩ : ∃ d : Nat, d = c3.toNat % 64 := ⟨_, rfl⟩
      have m0 : bits .and .u64 ((V : Int) / 262144) 63 = (d0 : Int) := and_63_of (V / 262144) _ (by omega) (by omega) (by omega)
      have m1 : bits .and .u64 ((V : Int) / 4096) 63 = (d1 : Int) := and_63_of (V / 4096) _ (by omega) (by omega) (by omega)
      have m2 : bits .and .u64 ((V : Int) / 64) 63 = (d2 : Int) := and_63_of (V / 64) _ (by omega) (by omega) (by omega)
      have m3 : bits .and .u64 (V : Int) 63 = (d3 : Int) := and_63_of V _ (by omega) (by omega) (by omega)
      have g0 : d0 < 64 := by omega
      have g1 : d1 < 64 := by omega
      have g2 : d2 < 64 := by omega
      have g3 : d3 < 64 := by omega
      have hVl : V < 16777216 := by omega
      have i0' : ((d0 : Int) < 64) = True := eq_true (by omega)
      have i1' : ((d1 : Int) < 64) = True := eq_true (by omega)
      have i2' : ((d2 : Int) < 64) = True := eq_true (by omega)
      have i3' : ((d3 : Int) < 64) = True := eq_true (by omega)
      obtain ⟨s0, hs0⟩ : ∃ x : Nat, x = (signP d0).toNat := ⟨_, rfl⟩
      obtain ⟨s1, hs1⟩ : ∃ x : Nat, x = (signP d1).toNat := ⟨_, rfl⟩
      obtain ⟨s2, hs2⟩ : ∃ x : Nat, x = (signP d2).toNat := ⟨_, rfl⟩
      obtain ⟨s3, hs3⟩ : ∃ x : Nat, x = (signP d3).toNat := ⟨_, rfl⟩
      have hdn : 4 ≤ dn := by
        have h1 := HO.out.2.1
        rw [hd] at h1
        simp [b64P] at h1
        omega
      obtain rfl : D = some ⟨gd, O, none⟩ := HD.out (by omega)
      have hOs : O + 4 ≤ cs.size := by rw [HI.out.put.size]; have := HO.out; omega
      obtain ⟨u0, p0⟩ := some_cell HI.out.blk O (by omega)
      obtain ⟨u1, p1⟩ := some_cell HI.out.blk (O + 1) (by omega)
      obtain ⟨u2, p2⟩ := some_cell HI.out.blk (O + 2) (by omega)
      obtain ⟨u3, p3⟩ := some_cell HI.out.blk (O + 3) (by omega)
      have f0 := HI.out.blk.frozen O
      have f1 := HI.out.blk.frozen (O + 1)
      have f2 := HI.out.blk.frozen (O + 2)
      have f3 := HI.out.blk.frozen (O + 3)
      have q0 : wr.cell? ⟨ge, d0, none⟩ = some (.int .u8 (s0 : Int)) := by rw [hge d0 g0, hs0]; rfl
      have hset : ∀ (W : World) (k m s : Nat) (v : Value), W.cell? ⟨ge, m, none⟩ = some (.int .u8 (s : Int)) → (W.setCell ⟨gd, k, none⟩ v).cell? ⟨ge, m, none⟩ = some (.int .u8 (s : Int)) := fun W k m s v h => by
        rw [← h]
        apply World.cell?_setCell_other
        intro e
        injection e with e
        exact HG.out e.symm
      have q1 : ∀ k v, ((wr.drewN k).setCell ⟨gd, O, none⟩ v).cell? ⟨ge, d1, none⟩ = some (.int .u8 (s1 : Int))   := fun k v => hset _ _ _ _ _ ((hge d1 g1).trans (by rw [hs1]; rfl))
      have q2 : ∀ k v v', (((wr.drewN k).setCell ⟨gd, O, none⟩ v).setCell ⟨gd, O + 1, none⟩ v').cell? ⟨ge, d2, none⟩ = some (.int .u8 (s2 : Int)) := fun k v v' => hset _ _ _ _ _ (hset _ _ _ _ _ ((hge d2 g2).trans (by rw [hs2]; rfl)))
      have q3 : ∀ k v v' v'', ((((wr.drewN k).setCell ⟨gd, O, none⟩ v).setCell ⟨gd, O + 1, none⟩ v').setCell ⟨gd, O + 2, none⟩ v'').cell? ⟨ge, d3, none⟩ = some (.int .u8 (s3 : Int)) := fun k v v' v'' => hset _ _ _ _ _ (hset _ _ _ _ _ (hset _ _ _ _ _ ((hge d3 g3).trans (by rw [hs3]; rfl))))
      obtain ⟨A3, ys3, hc1, hys3, hyl3, hyr3⟩ := cut_from (P := Tryz.prog) 28 5 .i64 Tryz.underlying28 hi0 hsz (some ad) c2 ys 3 (by rw [← HN.out]; exact h3) (by rw [← HN.out]; exact hnc)
      rw [← HN.out] at hc1
      obtain ⟨D3, hc2, hD3⟩ := slice_from_d (P := Tryz.prog) 28 5 Tryz.underlying28 hi0 hsz gd O dn dc2 4 hdn HO.out.2.2.1
      have t1 : ∀ W : World, (Instr.slice 28 (.slice (some ad) n c2) (some (.int .i64 3)) none none).run Tryz.prog W = .ok (.slice A3 ys3.length (c2 - 3)) W := hc1
      have t2 : ∀ W : World, (Instr.slice 28 (.slice (some ⟨gd, O, none⟩) dn dc2) (some (.int .i64 4)) none none).run Tryz.prog W = .ok (.slice D3 (dn - 4) (dc2 - 4)) W := hc2
      have j3 : ((3 : Int) ≤ (n : Int)) = True := eq_true (by omega)
      have HJ := Lib.hid (And.intro hd0 (And.intro hd1 (And.intro hd2 (And.intro hd3 (And.intro hs0 (And.intro hs1 (And.intro hs2 hs3)))))))
      have HDD := Lib.hid hd
      have HY3 := Lib.hid hys3
      have HYR := Lib.hid hyr3
      have HD3 := Lib.hid hD3
      have HSZ := Lib.hid hOs
      clear hc1 hc2 hd hys3 hyr3 hD3 hd0 hd1 hd2 hd3 hs0 hs1 hs2 hs3 hcc hcs x0 x1 x2 hV2 hV hset hge hrr HD hOs
      have l0 : (0 : Int) < (n : Int) := by omega
      have l1 : (1 : Int) < (n : Int) := by omega
      have l2 : (2 : Int) < (n : Int) := by omega
      have l0n : 0 < n := by omega
      have l1n : 1 < n := by omega
      have l2n : 2 < n := by omega
      have r0 : (0 : Int) < (dn : Int) := by omega
      have r1 : (1 : Int) < (dn : Int) := by omega
      have r2 : (2 : Int) < (dn : Int) := by omega
      have r3 : (3 : Int) < (dn : Int) := by omega
      have r0n : 0 < dn := by omega
      have r1n : 1 < dn := by omega
      have r2n : 2 < dn := by omega
      have r3n : 3 < dn := by omega
      go_wp2_with fail
      go_quiet (fail)
      go_wp2_with fail
      go_roundg (gk - 1)
      case measure => have := hgk.out; omega
      case rel =>
        have hO := HO.out
        have hJ := HJ.out
        have hsz := HSZ.out
        rw [HI.out.put.size] at hsz
        have hys : ys3 = r := by rw [HY3.out, HDD.out]; rfl
        have hn := HN.out
        rw [HDD.out] at hn
        simp at hn
        have hg := hgk.out
        have hb6 := HO.out.2.1
        rw [HDD.out] at hb6
        simp [b64P] at hb6
        have hrl : ys3.length = r.length := by rw [hys]
        have hq := HI.out.drewN nq
        have hq1 := hq.one hO.1 (signP d0) s0 hJ.2.2.2.2.1 (by omega)
        have hq2 := hq1.one (O := O + 1) (by simp; omega) (signP d1) s1 hJ.2.2.2.2.2.1 (by omega)
        have hq3 := hq2.one (O := O + 2) (by simp; omega) (signP d2) s2 hJ.2.2.2.2.2.2.1 (by omega)
        have hq4 := hq3.one (O := O + 3) (by simp; omega) (signP d3) s3 hJ.2.2.2.2.2.2.2 (by omega)
        refine ⟨O + 4, ys3.length, dn - 4, dc2 - 4, c2 - 3, D3, A3, ys3, (((out ++ [signP d0]) ++ [signP d1]) ++ [signP d2]) ++ [signP d3], _, rfl, rfl, hyl3, by omega, by omega, rfl, HD3.out, ⟨by simp; omega, by rw [hys]; omega, by omega, by omega⟩, ?_, show _ < _ by omega, fun W cs' h1 h2 h3 h4 => HYR.out _ _ _ (HS.out W cs' h1 h2 h3 h4), hq4⟩
        show _ = _
        rw [← HY.out, hys, HDD.out, hJ.1, hJ.2.1, hJ.2.2.1, hJ.2.2.2.1]
        simp [b64P]
    · have j3 : ((3 : Int) ≤ (n : Int)) = False := eq_false (by omega)
      rcases (show n = 0 ∨ n = 1 ∨ n = 2 by omega) with rfl | rfl | rfl
      ·
        have hys : ys = [] := List.eq_nil_of_length_eq_zero HN.out.symm
        go_wp2_with fail
        refine bodyPost_ret (v := .tuple #[]) (by simp [results, Tryz.results138, go_sem]) rfl ?_
        have h1 := HY.out
        rw [hys] at h1
        simp [b64P] at h1
        exact ⟨rfl, cs, HI.out.blk, by rw [← h1]; exact HI.out.put, HI.out.keep⟩
      ·
        obtain ⟨a, hd⟩ : ∃ a, ys = [a] := by
          have h1 : 1 = ys.length := HN.out
          match ys, h1 with
          | [a], _ => exact ⟨a, rfl⟩
        have x0 : ys[0]? = some a := by rw [hd]; rfl
        obtain ⟨ad, rfl, _, hcc, hcs⟩ := RB.spots hrr (by rw [← HN.out]; omega)
        have c0 : wr.cell? ad = some (.int .u8 (a.toNat : Int)) := hcc 0 a x0
        have ha := a.toNat_lt
        obtain ⟨d0, hd0⟩ : ∃ d : Nat, d = a.toNat / 4 := ⟨_, rfl⟩
        obtain ⟨d1, hd1⟩ : ∃ d : Nat, d = a.toNat % 4 * 16 := ⟨_, rfl⟩
        have m0 : bits .and .u64 ((a.toNat : Int) * 65536 / 262144) 63 = (d0 : Int) := and_63_of (a.toNat * 65536 / 262144) _ (by omega) (by omega) (by omega)
        have m1 : bits .and .u64 ((a.toNat : Int) * 65536 / 4096) 63 = (d1 : Int) := and_63_of (a.toNat * 65536 / 4096) _ (by omega) (by omega) (by omega)
        have g0 : d0 < 64 := by omega
        have g1 : d1 < 64 := by omega
        have i0' : ((d0 : Int) < 64) = True := eq_true (by omega)
        have i1' : ((d1 : Int) < 64) = True := eq_true (by omega)
        obtain ⟨s0, hs0⟩ : ∃ x : Nat, x = (signP d0).toNat := ⟨_, rfl⟩
        obtain ⟨s1, hs1⟩ : ∃ x : Nat, x = (signP d1).toNat := ⟨_, rfl⟩
        have hdn : 4 ≤ dn := by
          have h1 := HO.out.2.1
          rw [hd] at h1
          simpa [b64P] using h1
        obtain rfl : D = some ⟨gd, O, none⟩ := HD.out (by omega)
        have hOs : O + 4 ≤ cs.size := by rw [HI.out.put.size]; have := HO.out; omega
        obtain ⟨u0, p0⟩ := some_cell HI.out.blk O (by omega)
        obtain ⟨u1, p1⟩ := some_cell HI.out.blk (O + 1) (by omega)
        obtain ⟨u2, p2⟩ := some_cell HI.out.blk (O + 2) (by omega)
        obtain ⟨u3, p3⟩ := some_cell HI.out.blk (O + 3) (by omega)
        have f0 := HI.out.blk.frozen O
        have f1 := HI.out.blk.frozen (O + 1)
        have f2 := HI.out.blk.frozen (O + 2)
        have f3 := HI.out.blk.frozen (O + 3)
        have hpad : wr.cell? ⟨ge, 320, none⟩ = some (.int .i32 61) := by rw [(HB.out.keep HI.out.keep HG.out).cell, encC_pad]
        have hset : ∀ (W : World) (k m : Nat) (u v : Value), W.cell? ⟨ge, m, none⟩ = some u → (W.setCell ⟨gd, k, none⟩ v).cell? ⟨ge, m, none⟩ = some u := fun W k m u v h => by
          rw [← h]
          apply World.cell?_setCell_other
          intro e
          injection e with e
          exact HG.out e.symm
        have q0 : wr.cell? ⟨ge, d0, none⟩ = some (.int .u8 (s0 : Int)) := (hge d0 g0).trans (by rw [hs0]; rfl)
        have q1 : ∀ v, (wr.setCell ⟨gd, O, none⟩ v).cell? ⟨ge, d1, none⟩ = some (.int .u8 (s1 : Int)) := fun v => hset _ _ _ _ _ ((hge d1 g1).trans (by rw [hs1]; rfl))
        have q2 : ∀ v v', ((wr.setCell ⟨gd, O, none⟩ v).setCell ⟨gd, O + 1, none⟩ v').cell? ⟨ge, 320, none⟩ = some (.int .i32 61) := fun v v' => hset _ _ _ _ _ (hset _ _ _ _ _ hpad)
        have q3 : ∀ v v' v'', (((wr.setCell ⟨gd, O, none⟩ v).setCell ⟨gd, O + 1, none⟩ v').setCell ⟨gd, O + 2, none⟩ v'').cell? ⟨ge, 320, none⟩ = some (.int .i32 61) := fun v v' v'' => hset _ _ _ _ _ (hset _ _ _ _ _ (hset _ _ _ _ _ hpad))
        have r0 : (0 : Int) < (dn : Int) := by omega
        have r1 : (1 : Int) < (dn : Int) := by omega
        have r2 : (2 : Int) < (dn : Int) := by omega
        have r3 : (3 : Int) < (dn : Int) := by omega
        have r0n : 0 < dn := by omega
        have r1n : 1 < dn := by omega
        have r2n : 2 < dn := by omega
        have r3n : 3 < dn := by omega
        have HJ := Lib.hid (And.intro hd0 (And.intro hd1 (And.intro hs0 hs1)))
        have HDD := Lib.hid hd
        have HSZ := Lib.hid hOs
        clear hd hd0 hd1 hs0 hs1 hcc hcs x0 hset hge hrr HD hOs hpad
        go_wp2_with fail
        go_end0
        have hO := HO.out
        have hJ := HJ.out
        have hsz := HSZ.out
        rw [HI.out.put.size] at hsz
        have hq1 := HI.out.one hO.1 (signP d0) s0 hJ.2.2.1 (by omega)
        have hq2 := hq1.one (O := O + 1) (by simp; omega) (signP d1) s1 hJ.2.2.2 (by omega)
        have hq3 := hq2.one (O := O + 2) (by simp; omega) 61 61 rfl (by omega)
        have hq4 := hq3.one (O := O + 3) (by simp; omega) 61 61 rfl (by omega)
        have h1 := HY.out
        rw [HDD.out] at h1
        refine ⟨rfl, _, hq4.blk, ?_, hq4.keep⟩
        rw [show b64P xs = (((out ++ [signP d0]) ++ [signP d1]) ++ [61]) ++ [61] by rw [← h1, hJ.1, hJ.2.1]; simp [b64P]]
        exact hq4.put
      ·
        obtain ⟨a, b, hd⟩ : ∃ a b, ys = [a, b] := by
          have h1 : 2 = ys.length := HN.out
          match ys, h1 with
          | [a, b], _ => exact ⟨a, b, rfl⟩
        have x0 : ys[0]? = some a := by rw [hd]; rfl
        have x1 : ys[1]? = some b := by rw [hd]; rfl
        obtain ⟨ad, rfl, _, hcc, hcs⟩ := RB.spots hrr (by rw [← HN.out]; omega)
        have c0 : wr.cell? ad = some (.int .u8 (a.toNat : Int)) := hcc 0 a x0
        have c1 : wr.cell? ⟨ad.block, ad.off + 1, none⟩ = some (.int .u8 (b.toNat : Int)) := hcs 1 b x1
        have ha := a.toNat_lt
        have hb' := b.toNat_lt
        have o2 := or_hi a.toNat b.toNat ha hb'
        obtain ⟨V, hV⟩ : ∃ V : Nat, V = a.toNat * 65536 + b.toNat * 256 := ⟨_, rfl⟩
        rw [← hV] at o2
        obtain ⟨d0, hd0⟩ : ∃ d : Nat, d = a.toNat / 4 := ⟨_, rfl⟩
        obtain ⟨d1, hd1⟩ : ∃ d : Nat, d = a.toNat % 4 * 16 + b.toNat / 16 := ⟨_, rfl⟩
        obtain ⟨d2, hd2⟩ : ∃ d : Nat, d = b.toNat % 16 * 4 := ⟨_, rfl⟩
        have m0 : bits .and .u64 ((V : Int) / 262144) 63 = (d0 : Int) := and_63_of (V / 262144) _ (by omega) (by omega) (by omega)
        have m1 : bits .and .u64 ((V : Int) / 4096) 63 = (d1 : Int) := and_63_of (V / 4096) _ (by omega) (by omega) (by omega)
        have m2 : bits .and .u64 ((V : Int) / 64) 63 = (d2 : Int) := and_63_of (V / 64) _ (by omega) (by omega) (by omega)
        have g0 : d0 < 64 := by omega
        have g1 : d1 < 64 := by omega
        have g2 : d2 < 64 := by omega
        have hVl : V < 16777216 := by omega
        have i0' : ((d0 : Int) < 64) = True := eq_true (by omega)
        have i1' : ((d1 : Int) < 64) = True := eq_true (by omega)
        have i2' : ((d2 : Int) < 64) = True := eq_true (by omega)
        obtain ⟨s0, hs0⟩ : ∃ x : Nat, x = (signP d0).toNat := ⟨_, rfl⟩
        obtain ⟨s1, hs1⟩ : ∃ x : Nat, x = (signP d1).toNat := ⟨_, rfl⟩
        obtain ⟨s2, hs2⟩ : ∃ x : Nat, x = (signP d2).toNat := ⟨_, rfl⟩
        have hdn : 4 ≤ dn := by
          have h1 := HO.out.2.1
          rw [hd] at h1
          simpa [b64P] using h1
        obtain rfl : D = some ⟨gd, O, none⟩ := HD.out (by omega)
        have hOs : O + 4 ≤ cs.size := by rw [HI.out.put.size]; have := HO.out; omega
        obtain ⟨u0, p0⟩ := some_cell HI.out.blk O (by omega)
        obtain ⟨u1, p1⟩ := some_cell HI.out.blk (O + 1) (by omega)
        obtain ⟨u2, p2⟩ := some_cell HI.out.blk (O + 2) (by omega)
        obtain ⟨u3, p3⟩ := some_cell HI.out.blk (O + 3) (by omega)
        have f0 := HI.out.blk.frozen O
        have f1 := HI.out.blk.frozen (O + 1)
        have f2 := HI.out.blk.frozen (O + 2)
        have f3 := HI.out.blk.frozen (O + 3)
        have hpad : wr.cell? ⟨ge, 320, none⟩ = some (.int .i32 61) := by rw [(HB.out.keep HI.out.keep HG.out).cell, encC_pad]
        have hset : ∀ (W : World) (k m : Nat) (u v : Value), W.cell? ⟨ge, m, none⟩ = some u → (W.setCell ⟨gd, k, none⟩ v).cell? ⟨ge, m, none⟩ = some u := fun W k m u v h => by
          rw [← h]
          apply World.cell?_setCell_other
          intro e
          injection e with e
          exact HG.out e.symm
        have q0 : wr.cell? ⟨ge, d0, none⟩ = some (.int .u8 (s0 : Int)) := (hge d0 g0).trans (by rw [hs0]; rfl)
        have q1 : ∀ k v, ((wr.drewN k).setCell ⟨gd, O, none⟩ v).cell? ⟨ge, d1, none⟩ = some (.int .u8 (s1 : Int)) := fun k v => hset _ _ _ _ _ ((hge d1 g1).trans (by rw [hs1]; rfl))
        have q2 : ∀ k v v', (((wr.drewN k).setCell ⟨gd, O, none⟩ v).setCell ⟨gd, O + 1, none⟩ v').cell? ⟨ge, d2, none⟩ = some (.int .u8 (s2 : Int)) := fun k v v' => hset _ _ _ _ _ (hset _ _ _ _ _ ((hge d2 g2).trans (by rw [hs2]; rfl)))
        have q3 : ∀ k v v' v'', ((((wr.drewN k).setCell ⟨gd, O, none⟩ v).setCell ⟨gd, O + 1, none⟩ v').setCell ⟨gd, O + 2, none⟩ v'').cell? ⟨ge, 320, none⟩ = some (.int .i32 61) := fun k v v' v'' => hset _ _ _ _ _ (hset _ _ _ _ _ (hset _ _ _ _ _ hpad))
        have r0 : (0 : Int) < (dn : Int) := by omega
        have r1 : (1 : Int) < (dn : Int) := by omega
        have r2 : (2 : Int) < (dn : Int) := by omega
        have r3 : (3 : Int) < (dn : Int) := by omega
        have r0n : 0 < dn := by omega
        have r1n : 1 < dn := by omega
        have r2n : 2 < dn := by omega
        have r3n : 3 < dn := by omega
        have HJ := Lib.hid (And.intro hd0 (And.intro hd1 (And.intro hd2 (And.intro hs0 (And.intro hs1 hs2)))))
        have HDD := Lib.hid hd
        have HSZ := Lib.hid hOs
        clear hd hd0 hd1 hd2 hs0 hs1 hs2 hcc hcs x0 x1 hset hge hrr HD hOs hpad hV
        go_wp2_with fail
        go_quiet (fail)
        go_wp2_with fail
        go_end0
        have hO := HO.out
        have hJ := HJ.out
        have hsz := HSZ.out
        rw [HI.out.put.size] at hsz
        have hq := HI.out.drewN nq
        have hq1 := hq.one hO.1 (signP d0) s0 hJ.2.2.2.1 (by omega)
        have hq2 := hq1.one (O := O + 1) (by simp; omega) (signP d1) s1 hJ.2.2.2.2.1 (by omega)
        have hq3 := hq2.one (O := O + 2) (by simp; omega) (signP d2) s2 hJ.2.2.2.2.2 (by omega)
        have hq4 := hq3.one (O := O + 3) (by simp; omega) 61 61 rfl (by omega)
        have h1 := HY.out
        rw [HDD.out] at h1
        refine ⟨rfl, _, hq4.blk, ?_, hq4.keep⟩
        rw [show b64P xs = (((out ++ [signP d0]) ++ [signP d1]) ++ [signP d2]) ++ [61] by rw [← h1, hJ.1, hJ.2.1, hJ.2.2.1]; simp [b64P]]
        exact hq4.put

end Go.Proofs.YtoeepfmmceilaaaGreatDoor
