/- laws.zzFits4, zzFits8: they answer a bool and leave memory as it was. Taken from the first seat's text. -/
import Derived.Test.YtmblpmmnglmjfaaGreatDoorAgInfo
set_option linter.unusedVariables false
set_option linter.unusedSimpArgs false
namespace Go.Proofs.YtmblpmmnglmjfaaGreatDoor
open Go.RowKit

theorem fits4 (ok : Nat → Prop) (A : Option Addr) (c : Nat) (xs : List (List UInt8)) (w : World) (hl : xs.length ≤ 9223372036854775807) (hr : RR (lit strV) ok w A xs) :
    Calls Tryz.prog 5 #[.slice A xs.length c] w fun e w' => (∃ b, e = .returned (.bool b)) ∧ w' = w := by
  have HR := Lib.hid hr
  clear hr
  go_enter Tryz.func5, Tryz.ntmps5
  by_cases hb : xs.length ≤ 2147483647
  rotate_left
  · have hd : (2147483647 < (xs.length : Int)) = True := eq_true (by omega)
    clear hb
    go_wp2_with fail
    go_ret
    exact ⟨⟨_, rfl⟩, rfl⟩
  have hd : (2147483647 < (xs.length : Int)) = False := eq_false (by omega)
  have hl2 : xs.length ≤ 3000000000 := by omega
  clear hb hl
  go_wp2_with fail
  clear hd
  go_loopg [4, 10] xs.length (fun gk v4 v10 wr => ∃ k : Nat, v10 = .int .i64 (k : Int) ∧ k ≤ xs.length ∧ Hid (k + gk = xs.length) ∧ wr = w)
  case atStart => exact ⟨0, rfl, by omega, by simp [Hid], rfl⟩
  case round =>
    obtain ⟨k, rfl, hk, hgk, rfl⟩ := hrel
    by_cases hlt : k < xs.length
    · obtain ⟨x, hx⟩ : ∃ x, xs[k]? = some x := ⟨_, List.getElem?_eq_getElem hlt⟩
      obtain ⟨ad, v, rfl, _, hcell, rfl⟩ := HR.out k x hx
      have hcx : wr.cell? (ad.add k) = some (.string ⟨x.toArray⟩) := hcell
      clear hx hcell
      by_cases hb : x.length ≤ 2147483647
      rotate_left
      · have hd : (2147483647 < (x.length : Int)) = True := eq_true (by omega)
        clear hb
        go_wp2_with fail
        go_ret
        exact ⟨⟨_, rfl⟩, rfl⟩
      · have hd : (2147483647 < (x.length : Int)) = False := eq_false (by omega)
        clear hb
        go_wp2_with fail
        go_roundg (gk - 1)
        case measure => have := hgk.out; omega
        case rel =>
          have hg := hgk.out
          exact ⟨k + 1, by go_num, by omega, show _ = _ by omega, rfl⟩
    · have hke : k = xs.length := by omega
      subst hke
      go_wp2
      go_ret
      exact ⟨⟨_, rfl⟩, rfl⟩
theorem fits8 (ok : Nat → Prop) (A : Option Addr) (c : Nat) (xs : List (List (List UInt8))) (w : World) (hl : xs.length ≤ 9223372036854775807) (hr : RR Strs ok w A xs) :
    Calls Tryz.prog 8 #[.slice A xs.length c] w fun e w' => (∃ b, e = .returned (.bool b)) ∧ w' = w := by
  have HR := Lib.hid hr
  clear hr
  go_enter Tryz.func8, Tryz.ntmps8
  by_cases hb : xs.length ≤ 2147483647
  rotate_left
  · have hd : (2147483647 < (xs.length : Int)) = True := eq_true (by omega)
    clear hb
    go_wp2_with fail
    go_ret
    exact ⟨⟨_, rfl⟩, rfl⟩
  have hd : (2147483647 < (xs.length : Int)) = False := eq_false (by omega)
  have hl2 : xs.length ≤ 3000000000 := by omega
  clear hb hl
  go_wp2_with fail
  clear hd
  go_loopg [4, 10] xs.length (fun gk v4 v10 wr => ∃ k : Nat, v10 = .int .i64 (k : Int) ∧ k ≤ xs.length ∧ Hid (k + gk = xs.length) ∧ wr = w)
  case atStart => exact ⟨0, rfl, by omega, by simp [Hid], rfl⟩
  case round =>
    obtain ⟨k, rfl, hk, hgk, rfl⟩ := hrel
    by_cases hlt : k < xs.length
    · obtain ⟨x, hx⟩ : ∃ x, xs[k]? = some x := ⟨_, List.getElem?_eq_getElem hlt⟩
      obtain ⟨ad, v, rfl, _, hcell, A2, c2, rfl, hc2, hm2, hr2⟩ := HR.out k x hx
      have HF := Lib.hid (fits4 ok A2 c2 x wr (by omega) hr2)
      clear hx hr2
      go_wp2_with (go_at_call 5; refine HF.out.mono ?_; rintro e w1 ⟨⟨b, rfl⟩, rfl⟩; cases b)
      · go_ret
        exact ⟨⟨_, rfl⟩, rfl⟩
      · go_roundg (gk - 1)
        case measure => have := hgk.out; omega
        case rel =>
          have hg := hgk.out
          exact ⟨k + 1, by go_num, by omega, show _ = _ by omega, rfl⟩
    · have hke : k = xs.length := by omega
      subst hke
      go_wp2
      go_ret
      exact ⟨⟨_, rfl⟩, rfl⟩

end Go.Proofs.YtmblpmmnglmjfaaGreatDoor
