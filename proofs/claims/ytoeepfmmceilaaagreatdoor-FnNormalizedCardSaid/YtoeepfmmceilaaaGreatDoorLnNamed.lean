/- laws.named. -/
import Derived.Test.YtoeepfmmceilaaaGreatDoorLnStr
set_option linter.unusedVariables false
set_option linter.unusedSimpArgs false
namespace Go.Proofs.YtoeepfmmceilaaaGreatDoor
open Go.RowKit

/-- A sign of a host: a small letter, a digit, a point, a hyphen. -/
def okS (x : UInt8) : Bool := (decide (97 ≤ x.toNat) && decide (x.toNat ≤ 122)) || (decide (48 ≤ x.toNat) && decide (x.toNat ≤ 57)) || x.toNat == 46 || x.toNat == 45
def namedP (l : List UInt8) : Bool := l.all okS && decide (l ≠ []) && decide (l.length ≤ 60)
theorem named_false {l : List UInt8} {x : UInt8} {k : Nat} (hx : l[k]? = some x) (h : okS x = false) : namedP l = false := by
  have : l.all okS = false := by
    rw [List.all_eq_false]
    exact ⟨x, List.mem_of_getElem? hx, by rw [h]; decide⟩
  unfold namedP
  rw [this]
  rfl
theorem all_take {l : List UInt8} {x : UInt8} {k : Nat} (hx : l[k]? = some x) (h : (l.take k).all okS = true) (h1 : okS x = true) : (l.take (k + 1)).all okS = true := by
  rw [List.take_add_one, hx, List.all_append, h]
  simp [h1]
/-- The seven kinds of a sign. -/
theorem kinds (x : UInt8) : (97 ≤ x.toNat ∧ x.toNat ≤ 122) ∨ (48 ≤ x.toNat ∧ x.toNat ≤ 57) ∨ x.toNat = 46 ∨ x.toNat = 45 ∨ (x.toNat < 48 ∧ x.toNat ≠ 46 ∧ x.toNat ≠ 45) ∨ (57 < x.toNat ∧ x.toNat < 97) ∨ 122 < x.toNat := by omega
set_option maxRecDepth 100000 in
set_option maxHeartbeats 1600000 in
theorem named_walk (l : List UInt8) (w : World) (hl : l.length ≤ 2147483647) : Calls Tryz.prog 14 #[.string ⟨l.toArray⟩] w fun e w' => e = .returned (.bool (namedP l)) ∧ w' = w := by
  have hsz := size_list l
  have HLL := Lib.hid hl
  clear hl
  go_enter Tryz.func14, Tryz.ntmps14
  go_wp2_with fail
  go_loopg [6] (l.length + 1) (fun gk v6 wr => ∃ k : Nat, v6 = .int .i64 (k : Int) ∧ k ≤ l.length ∧ Hid (k + gk = l.length + 1) ∧ Hid ((l.take k).all okS = true) ∧ wr = w)
  case atStart => exact ⟨0, rfl, by omega, by simp [Hid], by simp [Hid], rfl⟩
  case round =>
    obtain ⟨k, rfl, hk, hgk, HA, rfl⟩ := hrel
    by_cases hlt : k < l.length
    · obtain ⟨x, hx⟩ : ∃ x, l[k]? = some x := ⟨_, List.getElem?_eq_getElem hlt⟩
      have hix := get_list l k x hx
      have HX := Lib.hid hx
      have HK1 := Lib.hid (show wrap64 ((k : Int) + 1) = (k : Int) + 1 by have := HLL.out; unfold wrap64; omega)
      clear hx
      go_wp2_with fail
      all_goals first
        | (go_roundg (gk - 1)
           case measure => have := hgk.out; omega
           case rel =>
             have hg := hgk.out
             refine ⟨k + 1, by rw [HK1.out]; rfl, by omega, show _ = _ by omega, all_take HX.out HA.out ?_, rfl⟩
             unfold okS
             simp at *
             omega)
        | (go_ret
           refine ⟨?_, rfl⟩
           rw [named_false HX.out (by unfold okS; simp at *; omega)]
           rfl)
    · have hke : k = l.length := by omega
      subst hke
      have HA2 := Lib.hid (show l.all okS = true by have := HA.out; rwa [List.take_length] at this)
      have hnl : namedP l = (decide (l ≠ []) && decide (l.length ≤ 60)) := by unfold namedP; rw [HA2.out]; rfl
      have HNL := Lib.hid hnl
      clear hnl
      cases l with
      | nil =>
        go_wp2_with fail
        go_ret
        exact ⟨rfl, rfl⟩
      | cons x r =>
        go_wp2_with fail
        go_ret
        refine ⟨?_, rfl⟩
        rw [HNL.out]
        simp
        omega

end Go.Proofs.YtoeepfmmceilaaaGreatDoor
