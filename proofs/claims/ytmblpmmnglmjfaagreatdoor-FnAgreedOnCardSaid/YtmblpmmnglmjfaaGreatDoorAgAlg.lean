/- The first name of the client's list that the server has: spec.Agreed, ssh.findCommon; ciphers that seal: spec.Sealing, ssh.zzAEAD. -/
import Derived.Test.YtmblpmmnglmjfaaGreatDoorAgBytes
set_option linter.unusedVariables false
set_option linter.unusedSimpArgs false
namespace Go.Proofs.YtmblpmmnglmjfaaGreatDoor
open Go.RowKit

/-- The first of the client's names that the server has. -/
def agreeP (sv : List (List UInt8)) : List (List UInt8) → Option (List UInt8)
  | [] => none
  | c :: r => if c ∈ sv then some c else agreeP sv r
theorem agreeP_hit {sv : List (List UInt8)} {l : List (List UInt8)} {k : Nat} {c : List UInt8} (h : l[k]? = some c) (hc : c ∈ sv) : agreeP sv (l.drop k) = some c := by
  rw [drop_cons_of h, agreeP, if_pos hc]
theorem agreeP_miss {sv : List (List UInt8)} {l : List (List UInt8)} {k : Nat} {c : List UInt8} (h : l[k]? = some c) (hc : c ∉ sv) : agreeP sv (l.drop k) = agreeP sv (l.drop (k + 1)) := by
  rw [drop_cons_of h, agreeP, if_neg hc]

def gcm128 : List UInt8 := [97, 101, 115, 49, 50, 56, 45, 103, 99, 109, 64, 111, 112, 101, 110, 115, 115, 104, 46, 99, 111, 109]
def gcm256 : List UInt8 := [97, 101, 115, 50, 53, 54, 45, 103, 99, 109, 64, 111, 112, 101, 110, 115, 115, 104, 46, 99, 111, 109]
def chacha : List UInt8 := [99, 104, 97, 99, 104, 97, 50, 48, 45, 112, 111, 108, 121, 49, 51, 48, 53, 64, 111, 112, 101, 110, 115, 115, 104, 46, 99, 111, 109]
def sealP (x : List UInt8) : Bool := decide (x = gcm128 ∨ x = gcm256 ∨ x = chacha)

set_option maxHeartbeats 400000 in
theorem aead_any (x : List UInt8) (w : World) : Calls Tryz.prog 36 #[.string ⟨x.toArray⟩] w fun e w' => e = .returned (.bool (sealP x)) ∧ w' = w := by
  by_cases h1 : x = gcm128
  · subst h1
    unfold gcm128
    go_enter Tryz.func36, Tryz.ntmps36
    go_wp2
    go_ret
    exact ⟨rfl, rfl⟩
  by_cases h2 : x = gcm256
  · subst h2
    unfold gcm256
    go_enter Tryz.func36, Tryz.ntmps36
    go_wp2
    go_ret
    exact ⟨rfl, rfl⟩
  by_cases h3 : x = chacha
  · subst h3
    unfold chacha
    go_enter Tryz.func36, Tryz.ntmps36
    go_wp2
    go_ret
    exact ⟨rfl, rfl⟩
  have hs : sealP x = false := by unfold sealP; simp [h1, h2, h3]
  have h1 : (x == gcm128) = false := by rw [beq_eq_false_iff_ne]; exact h1
  have h2 : (x == gcm256) = false := by rw [beq_eq_false_iff_ne]; exact h2
  have h3 : (x == chacha) = false := by rw [beq_eq_false_iff_ne]; exact h3
  unfold gcm128 at h1
  unfold gcm256 at h2
  unfold chacha at h3
  go_enter Tryz.func36, Tryz.ntmps36
  go_wp2
  go_ret
  exact ⟨by rw [hs]; rfl, rfl⟩

set_option maxHeartbeats 400000 in
theorem sealing_any (x : List UInt8) (w : World) : Calls Tryz.prog 18 #[.string ⟨x.toArray⟩] w fun e w' => e = .returned (.bool (sealP x)) ∧ w' = w := by
  by_cases h1 : x = gcm128
  · subst h1
    unfold gcm128
    go_enter Tryz.func18, Tryz.ntmps18
    go_wp2
    go_ret
    exact ⟨rfl, rfl⟩
  by_cases h2 : x = gcm256
  · subst h2
    unfold gcm256
    go_enter Tryz.func18, Tryz.ntmps18
    go_wp2
    go_ret
    exact ⟨rfl, rfl⟩
  by_cases h3 : x = chacha
  · subst h3
    unfold chacha
    go_enter Tryz.func18, Tryz.ntmps18
    go_wp2
    go_ret
    exact ⟨rfl, rfl⟩
  have hs : sealP x = false := by unfold sealP; simp [h1, h2, h3]
  have h1 : (x == gcm128) = false := by rw [beq_eq_false_iff_ne]; exact h1
  have h2 : (x == gcm256) = false := by rw [beq_eq_false_iff_ne]; exact h2
  have h3 : (x == chacha) = false := by rw [beq_eq_false_iff_ne]; exact h3
  unfold gcm128 at h1
  unfold gcm256 at h2
  unfold chacha at h3
  go_enter Tryz.func18, Tryz.ntmps18
  go_wp2
  go_ret
  exact ⟨by rw [hs]; rfl, rfl⟩

theorem Sealing_any (x : List UInt8) (w : World) : Calls Tryz.prog 9 #[.string ⟨x.toArray⟩] w fun e w' => e = .returned (.bool (sealP x)) ∧ w' = w := by
  have HS := Lib.hid (sealing_any x w)
  go_enter Tryz.func9, Tryz.ntmps9
  go_wp2_with (go_at_call 18; refine HS.out.mono ?_; rintro e w1 ⟨rfl, rfl⟩)
  go_ret
  exact ⟨rfl, rfl⟩

set_option maxHeartbeats 400000 in
theorem agreed_any (ok : Nat → Prop) (A B : Option Addr) (a b : Nat) (cl sv : List (List UInt8)) (w : World) (hcl : cl.length ≤ 1000) (hsv : sv.length ≤ 1000) (hr : RR (lit strV) ok w A cl) (hs : RR (lit strV) ok w B sv) :
    Calls Tryz.prog 10 #[.slice A cl.length a, .slice B sv.length b] w fun e w' => e = .returned (.tuple #[.string ⟨((agreeP sv cl).getD []).toArray⟩, .bool (agreeP sv cl).isSome]) ∧ w' = w := by
  have HR := Lib.hid hr
  have HS := Lib.hid hs
  clear hr hs
  go_enter Tryz.func10, Tryz.ntmps10
  go_wp2_with fail
  go_loopg [12] cl.length (fun gk v12 wr => ∃ k : Nat, v12 = .int .i64 (k : Int) ∧ k ≤ cl.length ∧ Hid (k + gk = cl.length) ∧ Hid (agreeP sv (cl.drop k) = agreeP sv cl) ∧ wr = w)
  case atStart => exact ⟨0, rfl, by omega, by simp [Hid], rfl, rfl⟩
  case round =>
    obtain ⟨k, rfl, hk, hgk, hag, rfl⟩ := hrel
    by_cases hlt : k < cl.length
    · obtain ⟨c, hc⟩ : ∃ c, cl[k]? = some c := ⟨_, List.getElem?_eq_getElem hlt⟩
      obtain ⟨ad, u, rfl, _, hcx, rfl⟩ := HR.out k c hc
      have hc1 : wr.cell? (ad.add k) = some (.string ⟨c.toArray⟩) := hcx
      have HC := Lib.hid hc
      clear hc hcx
      go_wp2_with fail
      obtain ⟨go, rfl⟩ : ∃ go, go = gk := ⟨_, rfl⟩
      go_loopg [18] sv.length (fun gk v18 wr1 => ∃ j : Nat, v18 = .int .i64 (j : Int) ∧ j ≤ sv.length ∧ Hid (j + gk = sv.length) ∧ Hid (∀ s ∈ sv.take j, s ≠ c) ∧ wr1 = wr)
      case atStart => exact ⟨0, rfl, by omega, by simp [Hid], fun s hs => by simp at hs, rfl⟩
      case round =>
        obtain ⟨j, rfl, hj, hgj, hne, rfl⟩ := hrel
        by_cases hlj : j < sv.length
        · obtain ⟨s, hs⟩ : ∃ s, sv[j]? = some s := ⟨_, List.getElem?_eq_getElem hlj⟩
          obtain ⟨ad2, u, rfl, _, hsx, rfl⟩ := HS.out j s hs
          have hs1 : wr.cell? (ad2.add j) = some (.string ⟨s.toArray⟩) := hsx
          have HSS := Lib.hid hs
          clear hs hsx
          by_cases he : c = s
          · subst he
            go_wp2_with fail
            go_ret2
            have h1 := agreeP_hit HC.out (List.mem_of_getElem? HSS.out)
            rw [hag.out] at h1
            rw [h1]
            exact ⟨rfl, rfl⟩
          · have hbq : (c == s) = false := by rw [beq_eq_false_iff_ne]; exact he
            have HNE := Lib.hid he
            clear he
            go_wp2_with fail
            go_roundg (gk - 1)
            case measure => have := hgj.out; omega
            case rel =>
              have hg := hgj.out
              refine ⟨j + 1, by go_num, by omega, show _ = _ by omega, show ∀ q ∈ _, _ from ?_, rfl⟩
              rw [List.take_add_one, HSS.out]
              intro q hq
              rcases List.mem_append.1 hq with hq | hq
              · exact hne.out q hq
              · obtain rfl : q = s := by simpa using hq
                exact fun e => HNE.out e.symm
        · have hje : j = sv.length := by omega
          subst hje
          have hnm : c ∉ sv := fun hm => hne.out c (by rw [List.take_length]; exact hm) rfl
          have HN := Lib.hid hnm
          clear hnm
          go_wp2_with fail
          go_roundg (go - 1)
          case measure => have := hgk.out; omega
          case rel =>
            have hg := hgk.out
            exact ⟨k + 1, by go_num, by omega, show _ = _ by omega, show _ = _ by rw [← hag.out, agreeP_miss HC.out HN.out], rfl⟩
    · have hke : k = cl.length := by omega
      have HA := Lib.hid (show agreeP sv cl = none by rw [← hag.out, hke, List.drop_length]; rfl)
      subst hke
      clear hag
      go_wp2_with fail
      go_ret2
      rw [HA.out]
      exact ⟨rfl, rfl⟩

/-- How findCommon ends. -/
def CommonEnd (w : World) (r : Option (List UInt8)) (e : Ending) (w' : World) : Prop :=
  Below w.heap.size w w' ∧ match r with
  | some c => e = .returned (.tuple #[.string ⟨c.toArray⟩, .nilIface]) ∧ w' = w
  | none => ∃ T v, e = .returned (.tuple #[.string ⟨#[]⟩, .iface T v])

set_option maxHeartbeats 400000 in
theorem common_any (ok : Nat → Prop) (A B : Option Addr) (a b : Nat) (cl sv : List (List UInt8)) (w : World) (hcl : cl.length ≤ 1000) (hsv : sv.length ≤ 1000) (hr : RR (lit strV) ok w A cl) (hs : RR (lit strV) ok w B sv) (what : ByteArray) :
    Calls Tryz.prog 35 #[.string what, .slice A cl.length a, .slice B sv.length b, .bool true] w (CommonEnd w (agreeP sv cl)) := by
  have HR := Lib.hid hr
  have HS := Lib.hid hs
  clear hr hs
  go_enter Tryz.func35, Tryz.ntmps35
  go_wp2_with fail
  go_loopg [17] cl.length (fun gk v17 wr => ∃ k : Nat, v17 = .int .i64 (k : Int) ∧ k ≤ cl.length ∧ Hid (k + gk = cl.length) ∧ Hid (agreeP sv (cl.drop k) = agreeP sv cl) ∧ wr = w)
  case atStart => exact ⟨0, rfl, by omega, by simp [Hid], rfl, rfl⟩
  case round =>
    obtain ⟨k, rfl, hk, hgk, hag, rfl⟩ := hrel
    by_cases hlt : k < cl.length
    · obtain ⟨c, hc⟩ : ∃ c, cl[k]? = some c := ⟨_, List.getElem?_eq_getElem hlt⟩
      obtain ⟨ad, u, rfl, _, hcx, rfl⟩ := HR.out k c hc
      have hc1 : wr.cell? (ad.add k) = some (.string ⟨c.toArray⟩) := hcx
      have HC := Lib.hid hc
      clear hc hcx
      go_wp2_with fail
      obtain ⟨go, rfl⟩ : ∃ go, go = gk := ⟨_, rfl⟩
      go_loopg [23] sv.length (fun gk v23 wr1 => ∃ j : Nat, v23 = .int .i64 (j : Int) ∧ j ≤ sv.length ∧ Hid (j + gk = sv.length) ∧ Hid (∀ s ∈ sv.take j, s ≠ c) ∧ wr1 = wr)
      case atStart => exact ⟨0, rfl, by omega, by simp [Hid], fun s hs => by simp at hs, rfl⟩
      case round =>
        obtain ⟨j, rfl, hj, hgj, hne, rfl⟩ := hrel
        by_cases hlj : j < sv.length
        · obtain ⟨s, hs⟩ : ∃ s, sv[j]? = some s := ⟨_, List.getElem?_eq_getElem hlj⟩
          obtain ⟨ad2, u, rfl, _, hsx, rfl⟩ := HS.out j s hs
          have hs1 : wr.cell? (ad2.add j) = some (.string ⟨s.toArray⟩) := hsx
          have HSS := Lib.hid hs
          clear hs hsx
          by_cases he : c = s
          · subst he
            go_wp2_with fail
            go_ret2
            have h1 := agreeP_hit HC.out (List.mem_of_getElem? HSS.out)
            rw [hag.out] at h1
            rw [h1]
            exact ⟨Below.refl _ _, rfl, rfl⟩
          · have hbq : (c == s) = false := by rw [beq_eq_false_iff_ne]; exact he
            have HNE := Lib.hid he
            clear he
            go_wp2_with fail
            go_roundg (gk - 1)
            case measure => have := hgj.out; omega
            case rel =>
              have hg := hgj.out
              refine ⟨j + 1, by go_num, by omega, show _ = _ by omega, show ∀ q ∈ _, _ from ?_, rfl⟩
              rw [List.take_add_one, HSS.out]
              intro q hq
              rcases List.mem_append.1 hq with hq | hq
              · exact hne.out q hq
              · obtain rfl : q = s := by simpa using hq
                exact fun e => HNE.out e.symm
        · have hje : j = sv.length := by omega
          subst hje
          have hnm : c ∉ sv := fun hm => hne.out c (by rw [List.take_length]; exact hm) rfl
          have HN := Lib.hid hnm
          clear hnm
          go_wp2_with fail
          go_roundg (go - 1)
          case measure => have := hgk.out; omega
          case rel =>
            have hg := hgk.out
            exact ⟨k + 1, by go_num, by omega, show _ = _ by omega, show _ = _ by rw [← hag.out, agreeP_miss HC.out HN.out], rfl⟩
    · have hke : k = cl.length := by omega
      have HA := Lib.hid (show agreeP sv cl = none by rw [← hag.out, hke, List.drop_length]; rfl)
      subst hke
      clear hag
      go_wp2_with fail
      go_ret2
      rw [HA.out]
      exact ⟨(Below.refl _ _).alloc (Nat.le_refl _) _, _, _, rfl⟩


end Go.Proofs.YtmblpmmnglmjfaaGreatDoor
