/- spec.Base64: bytes in base 64. -/
import Derived.Test.YtoeepfmmceilaaaGreatDoorLnBytes
import Derived.Test.YtoeepfmmceilaaaGreatDoorLnPure
set_option linter.unusedVariables false
set_option linter.unusedSimpArgs false
namespace Go.Proofs.YtoeepfmmceilaaaGreatDoor
open Go.RowKit

def alphaB : ByteArray := ⟨#[65, 66, 67, 68, 69, 70, 71, 72, 73, 74, 75, 76, 77, 78, 79, 80, 81, 82, 83, 84, 85, 86, 87, 88, 89, 90, 97, 98, 99, 100, 101, 102, 103, 104, 105, 106, 107, 108, 109, 110, 111, 112, 113, 114, 115, 116, 117, 118, 119, 120, 121, 122, 48, 49, 50, 51, 52, 53, 54, 55, 56, 57, 43, 47]⟩
theorem alpha_cut_all : ∀ d : Fin 64, (alphaB.extract d.val (d.val + 1)).data.toList = [signP d.val] := by decide
theorem alpha_cut (d : Nat) (h : d < 64) : alphaB.extract d (d + 1) = ⟨#[signP d]⟩ := by
  have h1 := alpha_cut_all ⟨d, h⟩
  have h2 : (alphaB.extract d (d + 1)).data = #[signP d] := by
    apply Array.toList_inj.1
    exact h1
  cases hx : alphaB.extract d (d + 1) with
  | mk dd =>
    rw [hx] at h2
    exact congrArg ByteArray.mk h2
theorem run_alpha (d : Nat) (h : d < 64) (W : World) : (Instr.slice 9 (.string alphaB) (some (.int .u64 (d : Int))) (some (.int .u64 ((d : Int) + 1))) none).run Tryz.prog W = .ok (.string ⟨#[signP d]⟩) W := by
  have hs : alphaB.size = 64 := by decide
  rw [← alpha_cut d h]
  simp [Instr.slice, run_underlying Tryz.underlying9, Instr.sliceBounds, run_sliceBound, sliced, hs, (by omega : (d : Int) ≤ 64), (by omega : (d : Int) + 1 ≤ 64), (by omega : (0 : Int) ≤ (d : Int) + 1), (by omega : (d : Int) ≤ (d : Int) + 1), Result.andThen]

theorem str_app (a b : List UInt8) : (⟨a.toArray⟩ : ByteArray) ++ ⟨b.toArray⟩ = ⟨(a ++ b).toArray⟩ := by
  apply ByteArray.ext
  simp
theorem str_one (a : List UInt8) (x : UInt8) : (⟨a.toArray⟩ : ByteArray) ++ ⟨#[x]⟩ = ⟨(a ++ [x]).toArray⟩ := str_app a [x]
theorem or_put (x b : Nat) (h : x < 16777216) (hb : b < 256) : bits .or .u64 ((x : Int) * 256) (b : Int) = (x : Int) * 256 + (b : Int) := by
  have e1 : ((x * 256 : Nat) : Int) = (x : Int) * 256 := by omega
  have e2 : ((x * 256 + b : Nat) : Int) = (x : Int) * 256 + (b : Int) := by rw [Int.natCast_add, e1]
  have h1 := u64_or_nat (x * 256) b (by omega) (by omega)
  have h2 : x * 256 ||| b = x * 256 + b := nat_or_add x b 8 hb
  rw [h2] at h1
  rw [e1, e2] at h1
  exact h1
theorem and_63 (x : Nat) (h : x < 18446744073709551616) : bits .and .u64 (x : Int) 63 = ((x % 64 : Nat) : Int) := by
  have h1 := u64_and_nat x 63 h (by omega)
  have h2 : x &&& 63 = x % 64 := Nat.and_two_pow_sub_one_eq_mod x 6
  rw [h2] at h1
  exact h1
theorem and_63_of {V : Int} (x d : Nat) (hv : V = (x : Int)) (h : x < 18446744073709551616) (hd : d = x % 64) : bits .and .u64 V 63 = (d : Int) := by
  subst hv hd
  exact and_63 x h

set_option maxRecDepth 100000 in
set_option maxHeartbeats 1600000 in
theorem base64_walk (ok : Nat → Prop) (A : Option Addr) (c : Nat) (xs : List UInt8) (w : World) (hl : xs.length ≤ 1000000) (hr : RR (lit byteV) ok w A xs) :
    Calls Tryz.prog 28 #[.slice A xs.length c] w fun e w' => e = .returned (strV (b64P xs)) ∧ w' = w := by
  have HR := Lib.hid hr
  clear hr
  go_enter Tryz.func28, Tryz.ntmps28
  go_wp2_with fail
  go_loopg [3, 4, 5, 6, 7, 8, 9] (xs.length + 2) (fun gk v3 v4 v5 v6 v7 v8 v9 wr => ∃ (k : Nat) (out : List UInt8), v3 = .string ⟨out.toArray⟩ ∧ v4 = .int .i64 (k : Int) ∧ k ≤ xs.length + 2 ∧ Hid (out ++ b64P (xs.drop k) = b64P xs) ∧ Hid (k + gk = xs.length + 2) ∧ wr = w)
  case atStart => exact ⟨0, [], rfl, rfl, by omega, by simp [Hid], by simp [Hid], rfl⟩
  case round =>
    obtain ⟨k, out, rfl, rfl, hk, HO, hgk, rfl⟩ := hrel
    have hol : out.length ≤ 2000000 := by
      have h1 := congrArg List.length HO.out
      rw [List.length_append, b64P_len xs] at h1
      omega
    by_cases hlt : k < xs.length
    · match hd : xs.drop k with
      | [] => exact absurd (List.drop_eq_nil_iff.1 hd) (by omega)
      | [a] =>
        have hl1 : k + 1 = xs.length := by
          have := congrArg List.length hd
          simp at this
          omega
        have x0 : xs[k]? = some a := by have := congrArg (·[0]?) hd; simpa using this
        have h3 := HR.out
        obtain ⟨ad, rfl, _, hcc⟩ := RB.at h3 (by omega)
        have c0 : wr.cell? (ad.add k) = some (.int .u8 (a.toNat : Int)) := hcc k a x0
        have b0 := byte_le a
        have o1 : bits .or .u64 0 (a.toNat : Int) = (a.toNat : Int) := by
          have := u64_or_nat 0 a.toNat (by omega) (by omega)
          simpa using this
        obtain ⟨d0, hd0⟩ : ∃ d : Nat, d = a.toNat / 4 := ⟨_, rfl⟩
        obtain ⟨d1, hd1⟩ : ∃ d : Nat, d = a.toNat % 4 * 16 := ⟨_, rfl⟩
        have m0 : bits .and .u64 (((a.toNat : Int) * 256 * 256) / 262144) 63 = (d0 : Int) := and_63_of ((a.toNat * 256 * 256) / 262144) _ (by omega) (by omega) (by omega)
        have m1 : bits .and .u64 (((a.toNat : Int) * 256 * 256) / 4096) 63 = (d1 : Int) := and_63_of ((a.toNat * 256 * 256) / 4096) _ (by omega) (by omega) (by omega)
        have g0 : d0 < 64 := by omega
        have g1 : d1 < 64 := by omega
        have r0 := run_alpha d0 g0
        have r1 := run_alpha d1 g1
        unfold alphaB at r0 r1
        have D0 := Lib.hid hd0
        have D1 := Lib.hid hd1
        clear hd0 hd1
        have k0 : ((k : Int) < (xs.length : Int)) = True := eq_true (by omega)
        have k1 : ((k : Int) + 1 < (xs.length : Int)) = False := eq_false (by omega)
        have k2 : ((k : Int) + 2 < (xs.length : Int)) = False := eq_false (by omega)
        have HD := Lib.hid hd
        clear hcc x0 hd h3
        go_wp2_with fail
        refine wp_loop_rounds 4 ?_
        rw [rounds_succ]
        go_wp2_with fail
        rw [rounds_succ]
        go_wp2_with fail
        rw [rounds_succ]
        go_wp2_with fail
        rw [rounds_succ]
        go_wp2_with fail
        refine wp_loop_rounds 5 ?_
        rw [rounds_succ]
        go_wp2_with fail
        rw [rounds_succ]
        go_wp2_with fail
        rw [rounds_succ]
        go_wp2_with fail
        rw [rounds_succ]
        go_wp2_with fail
        rw [rounds_succ]
        go_wp2_with fail
        go_roundg (gk - 3)
        case measure => have := hgk.out; omega
        case rel =>
          have hg := hgk.out
          refine ⟨k + 3, out ++ [signP d0, signP d1, 61, 61], ?_, by simp, by omega, ?_, show _ = _ by omega, rfl⟩
          · rw [str_one, str_one, str_one, str_one]
            simp
          · show _ = _
            rw [← HO.out, HD.out, D0.out, D1.out, List.append_assoc, show xs.drop (k + 3) = [] from List.drop_eq_nil_of_le (by omega)]
            rfl
      | [a, b] =>
        have hl1 : k + 2 = xs.length := by
          have := congrArg List.length hd
          simp at this
          omega
        have x0 : xs[k]? = some a := by have := congrArg (·[0]?) hd; simpa using this
        have x1 : xs[k + 1]? = some b := by have := congrArg (·[1]?) hd; simpa using this
        have h3 := HR.out
        obtain ⟨ad, rfl, _, hcc, hcs⟩ := RB.spots h3 (by omega)
        have c0 : wr.cell? (ad.add k) = some (.int .u8 (a.toNat : Int)) := hcc k a x0
        have c1 : wr.cell? ⟨ad.block, ad.off + (k + 1), none⟩ = some (.int .u8 (b.toNat : Int)) := hcs (k + 1) b x1
        have b0 := byte_le a
        have b1 := byte_le b
        have o2 : bits .or .u64 ((a.toNat : Int) * 256) (b.toNat : Int) = (a.toNat : Int) * 256 + (b.toNat : Int) := or_put _ _ (by omega) (by omega)
        have o1 : bits .or .u64 0 (a.toNat : Int) = (a.toNat : Int) := by
          have := u64_or_nat 0 a.toNat (by omega) (by omega)
          simpa using this
        obtain ⟨d0, hd0⟩ : ∃ d : Nat, d = a.toNat / 4 := ⟨_, rfl⟩
        obtain ⟨d1, hd1⟩ : ∃ d : Nat, d = a.toNat % 4 * 16 + b.toNat / 16 := ⟨_, rfl⟩
        obtain ⟨d2, hd2⟩ : ∃ d : Nat, d = b.toNat % 16 * 4 := ⟨_, rfl⟩
        have m0 : bits .and .u64 ((((a.toNat : Int) * 256 + (b.toNat : Int)) * 256) / 262144) 63 = (d0 : Int) := and_63_of (((a.toNat * 256 + b.toNat) * 256) / 262144) _ (by omega) (by omega) (by omega)
        have m1 : bits .and .u64 ((((a.toNat : Int) * 256 + (b.toNat : Int)) * 256) / 4096) 63 = (d1 : Int) := and_63_of (((a.toNat * 256 + b.toNat) * 256) / 4096) _ (by omega) (by omega) (by omega)
        have m2 : bits .and .u64 ((((a.toNat : Int) * 256 + (b.toNat : Int)) * 256) / 64) 63 = (d2 : Int) := and_63_of (((a.toNat * 256 + b.toNat) * 256) / 64) _ (by omega) (by omega) (by omega)
        have g2 : d2 < 64 := by omega
        have r2 := run_alpha d2 g2
        unfold alphaB at r2
        have D2 := Lib.hid hd2
        clear hd2
        have g0 : d0 < 64 := by omega
        have g1 : d1 < 64 := by omega
        have r0 := run_alpha d0 g0
        have r1 := run_alpha d1 g1
        unfold alphaB at r0 r1
        have D0 := Lib.hid hd0
        have D1 := Lib.hid hd1
        clear hd0 hd1
        have k0 : ((k : Int) < (xs.length : Int)) = True := eq_true (by omega)
        have k1 : ((k : Int) + 1 < (xs.length : Int)) = True := eq_true (by omega)
        have k2 : ((k : Int) + 2 < (xs.length : Int)) = False := eq_false (by omega)
        have HD := Lib.hid hd
        clear hcc hcs x0 x1 hd h3
        go_wp2_with fail
        refine wp_loop_rounds 4 ?_
        rw [rounds_succ]
        go_wp2_with fail
        rw [rounds_succ]
        go_wp2_with fail
        rw [rounds_succ]
        go_wp2_with fail
        rw [rounds_succ]
        go_wp2_with fail
        refine wp_loop_rounds 5 ?_
        rw [rounds_succ]
        go_wp2_with fail
        rw [rounds_succ]
        go_wp2_with fail
        rw [rounds_succ]
        go_wp2_with fail
        rw [rounds_succ]
        go_wp2_with fail
        rw [rounds_succ]
        go_wp2_with fail
        go_roundg (gk - 3)
        case measure => have := hgk.out; omega
        case rel =>
          have hg := hgk.out
          refine ⟨k + 3, out ++ [signP d0, signP d1, signP d2, 61], ?_, by simp, by omega, ?_, show _ = _ by omega, rfl⟩
          · rw [str_one, str_one, str_one, str_one]
            simp
          · show _ = _
            rw [← HO.out, HD.out, D0.out, D1.out, D2.out, List.append_assoc, show xs.drop (k + 3) = [] from List.drop_eq_nil_of_le (by omega)]
            rfl
      | a :: b :: c3 :: r =>
        have hl3 : k + 3 ≤ xs.length := by
          have := congrArg List.length hd
          simp at this
          omega
        have x0 : xs[k]? = some a := by have := congrArg (·[0]?) hd; simpa using this
        have x1 : xs[k + 1]? = some b := by have := congrArg (·[1]?) hd; simpa using this
        have x2 : xs[k + 2]? = some c3 := by have := congrArg (·[2]?) hd; simpa using this
        have hr3 : xs.drop (k + 3) = r := by
          rw [← List.drop_drop, hd]
          rfl
        have h3 := HR.out
        obtain ⟨ad, rfl, _, hcc, hcs⟩ := RB.spots h3 (by omega)
        have c0 : wr.cell? (ad.add k) = some (.int .u8 (a.toNat : Int)) := hcc k a x0
        have c1 : wr.cell? ⟨ad.block, ad.off + (k + 1), none⟩ = some (.int .u8 (b.toNat : Int)) := hcs (k + 1) b x1
        have c2 : wr.cell? ⟨ad.block, ad.off + (k + 2), none⟩ = some (.int .u8 (c3.toNat : Int)) := hcs (k + 2) c3 x2
        have b0 := byte_le a
        have b1 := byte_le b
        have b2 := byte_le c3
        have o1 : bits .or .u64 0 (a.toNat : Int) = (a.toNat : Int) := by
          have := u64_or_nat 0 a.toNat (by omega) (by omega)
          simpa using this
        have o2 : bits .or .u64 ((a.toNat : Int) * 256) (b.toNat : Int) = (a.toNat : Int) * 256 + (b.toNat : Int) := or_put _ _ (by omega) (by omega)
        have o3 : bits .or .u64 (((a.toNat : Int) * 256 + (b.toNat : Int)) * 256) (c3.toNat : Int) = ((a.toNat : Int) * 256 + (b.toNat : Int)) * 256 + (c3.toNat : Int) := by
          have := or_put (a.toNat * 256 + b.toNat) c3.toNat (by omega) (by omega)
          have e : ((a.toNat * 256 + b.toNat : Nat) : Int) = (a.toNat : Int) * 256 + (b.toNat : Int) := by omega
          rw [e] at this
          exact this
        obtain ⟨d0, hd0⟩ : ∃ d : Nat, d = a.toNat / 4 := ⟨_, rfl⟩
        obtain ⟨d1, hd1⟩ : ∃ d : Nat, d = a.toNat % 4 * 16 + b.toNat / 16 := ⟨_, rfl⟩
        obtain ⟨d2, hd2⟩ : ∃ d : Nat, d = b.toNat % 16 * 4 + c3.toNat / 64 := ⟨_, rfl⟩
        obtain ⟨d3, hd3⟩ : ∃ d : Nat, d = c3.toNat % 64 := ⟨_, rfl⟩
        have m0 : bits .and .u64 ((((a.toNat : Int) * 256 + (b.toNat : Int)) * 256 + (c3.toNat : Int)) / 262144) 63 = (d0 : Int) := and_63_of (((a.toNat * 256 + b.toNat) * 256 + c3.toNat) / 262144) _ (by omega) (by omega) (by omega)
        have m1 : bits .and .u64 ((((a.toNat : Int) * 256 + (b.toNat : Int)) * 256 + (c3.toNat : Int)) / 4096) 63 = (d1 : Int) := and_63_of (((a.toNat * 256 + b.toNat) * 256 + c3.toNat) / 4096) _ (by omega) (by omega) (by omega)
        have m2 : bits .and .u64 ((((a.toNat : Int) * 256 + (b.toNat : Int)) * 256 + (c3.toNat : Int)) / 64) 63 = (d2 : Int) := and_63_of (((a.toNat * 256 + b.toNat) * 256 + c3.toNat) / 64) _ (by omega) (by omega) (by omega)
        have m3 : bits .and .u64 ((((a.toNat : Int) * 256 + (b.toNat : Int)) * 256 + (c3.toNat : Int))) 63 = (d3 : Int) := and_63_of (((a.toNat * 256 + b.toNat) * 256 + c3.toNat)) _ (by omega) (by omega) (by omega)
        have g0 : d0 < 64 := by omega
        have g1 : d1 < 64 := by omega
        have g2 : d2 < 64 := by omega
        have g3 : d3 < 64 := by omega
        have r0 := run_alpha d0 g0
        have r1 := run_alpha d1 g1
        have r2 := run_alpha d2 g2
        have r3 := run_alpha d3 g3
        unfold alphaB at r0 r1 r2 r3
        have D0 := Lib.hid hd0
        have D1 := Lib.hid hd1
        have D2 := Lib.hid hd2
        have D3 := Lib.hid hd3
        clear hd0 hd1 hd2 hd3
        have k0 : ((k : Int) < (xs.length : Int)) = True := eq_true (by omega)
        have k1 : ((k : Int) + 1 < (xs.length : Int)) = True := eq_true (by omega)
        have k2 : ((k : Int) + 2 < (xs.length : Int)) = True := eq_true (by omega)
        have HD := Lib.hid hd
        have HR3 := Lib.hid hr3
        clear hcc hcs x0 x1 x2 hd hr3 h3
        go_wp2_with fail
        refine wp_loop_rounds 4 ?_
        rw [rounds_succ]
        go_wp2_with fail
        rw [rounds_succ]
        go_wp2_with fail
        rw [rounds_succ]
        go_wp2_with fail
        rw [rounds_succ]
        go_wp2_with fail
        refine wp_loop_rounds 5 ?_
        rw [rounds_succ]
        go_wp2_with fail
        rw [rounds_succ]
        go_wp2_with fail
        rw [rounds_succ]
        go_wp2_with fail
        rw [rounds_succ]
        go_wp2_with fail
        rw [rounds_succ]
        go_wp2_with fail
        go_roundg (gk - 3)
        case measure => have := hgk.out; omega
        case rel =>
          have hg := hgk.out
          refine ⟨k + 3, out ++ [signP d0, signP d1, signP d2, signP d3], ?_, by simp, by omega, ?_, show _ = _ by omega, rfl⟩
          · rw [str_one, str_one, str_one, str_one]
            simp
          · show _ = _
            rw [← HO.out, HD.out, HR3.out, D0.out, D1.out, D2.out, D3.out, List.append_assoc]
            rfl
    · go_wp2_with fail
      go_ret
      have h1 := HO.out
      have h2 : xs.drop k = [] := List.drop_eq_nil_of_le (by omega)
      rw [h2] at h1
      simp [b64P] at h1
      refine ⟨?_, rfl⟩
      rw [h1]
      rfl

end Go.Proofs.YtoeepfmmceilaaaGreatDoor
