/- laws.zzFits4, zzFits8, zzFits7: they answer a bool and leave memory as it was. -/
import Derived.Test.YtnlkgaobbobakaaMsg
set_option linter.unusedVariables false
set_option linter.unusedSimpArgs false
namespace Go.Proofs.Ytnlkgaobbobakaa
open Go.RowKit

theorem fits4 (ok : Nat → Prop) (A : Option Addr) (c : Nat) (xs : List (List UInt8)) (w : World) (hl : xs.length ≤ 9223372036854775807) (hr : RR (lit strV) ok w A xs) :
    Calls Try.prog 13 #[.slice A xs.length c] w fun e w' => (∃ b, e = .returned (.bool b)) ∧ w' = w := by
  have HR := Lib.hid hr
  clear hr
  go_enter Try.func13, Try.ntmps13
  by_cases hb : xs.length ≤ 2147483647
  rotate_left
  · have hd : (2147483647 < (xs.length : Int)) = True := eq_true (by omega)
    clear hb
    go_wp2_with fail
    go_ret
    exact ⟨⟨_, rfl⟩, rfl⟩
  have hd : (2147483647 < (xs.length : Int)) = False := eq_false (by omega)
  have hl2 : xs.length ≤ 3000000000 := by omega
  clear hb hl
  go_wp2_with fail
  clear hd
  go_loopg [4, 10] xs.length (fun gk v4 v10 wr => ∃ k : Nat, v10 = .int .i64 (k : Int) ∧ k ≤ xs.length ∧ Hid (k + gk = xs.length) ∧ wr = w)
  case atStart => exact ⟨0, rfl, by omega, by simp [Hid], rfl⟩
  case round =>
    obtain ⟨k, rfl, hk, hgk, rfl⟩ := hrel
    by_cases hlt : k < xs.length
    · obtain ⟨x, hx⟩ : ∃ x, xs[k]? = some x := ⟨_, List.getElem?_eq_getElem hlt⟩
      obtain ⟨ad, v, rfl, _, hcell, rfl⟩ := HR.out k x hx
      have hcx : wr.cell? (ad.add k) = some (.string ⟨x.toArray⟩) := hcell
      clear hx hcell
      by_cases hb : x.length ≤ 2147483647
      rotate_left
      · have hd : (2147483647 < (x.length : Int)) = True := eq_true (by omega)
        clear hb
        go_wp2_with fail
        go_ret
        exact ⟨⟨_, rfl⟩, rfl⟩
      · have hd : (2147483647 < (x.length : Int)) = False := eq_false (by omega)
        clear hb
        go_wp2_with fail
        go_roundg (gk - 1)
        case measure => have := hgk.out; omega
        case rel =>
          have hg := hgk.out
          exact ⟨k + 1, by go_num, by omega, show _ = _ by omega, rfl⟩
    · have hke : k = xs.length := by omega
      subst hke
      go_wp2
      go_ret
      exact ⟨⟨_, rfl⟩, rfl⟩

theorem fits8 (ok : Nat → Prop) (A : Option Addr) (c : Nat) (xs : List (List (List UInt8))) (w : World) (hl : xs.length ≤ 9223372036854775807) (hr : RR Strs ok w A xs) :
    Calls Try.prog 14 #[.slice A xs.length c] w fun e w' => (∃ b, e = .returned (.bool b)) ∧ w' = w := by
  have HR := Lib.hid hr
  clear hr
  go_enter Try.func14, Try.ntmps14
  by_cases hb : xs.length ≤ 2147483647
  rotate_left
  · have hd : (2147483647 < (xs.length : Int)) = True := eq_true (by omega)
    clear hb
    go_wp2_with fail
    go_ret
    exact ⟨⟨_, rfl⟩, rfl⟩
  have hd : (2147483647 < (xs.length : Int)) = False := eq_false (by omega)
  have hl2 : xs.length ≤ 3000000000 := by omega
  clear hb hl
  go_wp2_with fail
  clear hd
  go_loopg [4, 10] xs.length (fun gk v4 v10 wr => ∃ k : Nat, v10 = .int .i64 (k : Int) ∧ k ≤ xs.length ∧ Hid (k + gk = xs.length) ∧ wr = w)
  case atStart => exact ⟨0, rfl, by omega, by simp [Hid], rfl⟩
  case round =>
    obtain ⟨k, rfl, hk, hgk, rfl⟩ := hrel
    by_cases hlt : k < xs.length
    · obtain ⟨x, hx⟩ : ∃ x, xs[k]? = some x := ⟨_, List.getElem?_eq_getElem hlt⟩
      obtain ⟨ad, v, rfl, _, hcell, A2, c2, rfl, hc2, hm2, hr2⟩ := HR.out k x hx
      have HF := Lib.hid (fits4 ok A2 c2 x wr (by omega) hr2)
      clear hx hr2
      go_wp2_with (go_at_call 13; refine HF.out.mono ?_; rintro e w1 ⟨⟨b, rfl⟩, rfl⟩; cases b)
      · go_ret
        exact ⟨⟨_, rfl⟩, rfl⟩
      · go_roundg (gk - 1)
        case measure => have := hgk.out; omega
        case rel =>
          have hg := hgk.out
          exact ⟨k + 1, by go_num, by omega, show _ = _ by omega, rfl⟩
    · have hke : k = xs.length := by omega
      subst hke
      go_wp2
      go_ret
      exact ⟨⟨_, rfl⟩, rfl⟩

theorem fits7 (ok : Nat → Prop) (v : Value) (M : Msg) (w : World) (h : MsgS ok w v M) :
    Calls Try.prog 5 #[v] w fun e w' => (∃ b, e = .returned (.bool b)) ∧ Below w.heap.size w w' := by
  obtain ⟨vI, vS, vN, vT, vB, rfl, ⟨AI, cI, rfl, i1, i2, hI⟩, ⟨AS, cS, rfl, s1, s2, hS⟩, ⟨AN, cN, rfl, n1, n2, hN⟩, ⟨AT, cT, rfl, t1, t2, hT⟩, ⟨AB, cB, rfl, b1, b2, hB⟩⟩ := h
  have hs := fits4 ok AS cS M.strings (w.alloc (.cells #[.int .i64 M.number, .slice AI M.ints.length cI, .slice AS M.strings.length cS, .slice AN M.names.length cN, .slice AT M.truths.length cT, .slice AB M.bytes.length cB] 28)) (by omega) (hS.keep (lit_steady _) ((Keep.refl _ _).alloc _))
  have hn := fits8 ok AN cN M.names (w.alloc (.cells #[.int .i64 M.number, .slice AI M.ints.length cI, .slice AS M.strings.length cS, .slice AN M.names.length cN, .slice AT M.truths.length cT, .slice AB M.bytes.length cB] 28)) (by omega) (hN.keep strs_steady ((Keep.refl _ _).alloc _))
  have HS := Lib.hid hs
  have HN := Lib.hid hn
  clear hI hS hN hT hB hs hn
  go_enter Try.func5, Try.ntmps5
  go_wp2_with (first
    | (go_at_call 13; refine HS.out.mono ?_; rintro e w1 ⟨⟨b, rfl⟩, rfl⟩; cases b)
    | (go_at_call 14; refine HN.out.mono ?_; rintro e w1 ⟨⟨b, rfl⟩, rfl⟩; cases b))
  all_goals
    go_ret
    exact ⟨⟨_, rfl⟩, (Below.refl _ _).alloc (Nat.le_refl _) _⟩

end Go.Proofs.Ytnlkgaobbobakaa
