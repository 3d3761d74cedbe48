/- The cells of a base 64 encoding, as they fill. No program stands here but its values. -/
import Derived.Test.YtoeepfmmceilaaaGreatDoorBase
import Derived.Test.YtoeepfmmceilaaaGreatDoorLnPure
set_option linter.unusedVariables false
set_option linter.unusedSimpArgs false
namespace Go.Proofs.YtoeepfmmceilaaaGreatDoor
open Go.RowKit

set_option maxRecDepth 100000 in
theorem sign_digit_all : ∀ c : Fin 256, (match digitP (UInt8.ofNat c.val) with | some n => signP n == UInt8.ofNat c.val | none => true) = true := by decide
theorem sign_digit {c : UInt8} {n : Nat} (h : digitP c = some n) : signP n = c := by
  have h1 := sign_digit_all ⟨c.toNat, c.toNat_lt⟩
  have h2 : UInt8.ofNat c.toNat = c := UInt8.ofNat_toNat
  rw [h2, h] at h1
  simpa using h1
/-- What the table says of a sign after so many signs. -/
def dmapAt (i j : Nat) : Nat := match digitP (UInt8.ofNat j) with
  | some n => if n < i then n else 255
  | none => 255
theorem dmap_step {i j : Nat} (hj : j < 256) (h : j ≠ (signP i).toNat) : dmapAt i j = dmapAt (i + 1) j := by
  unfold dmapAt
  cases hd : digitP (UInt8.ofNat j) with
  | none => rfl
  | some n =>
    have hs := sign_digit hd
    have hn : n ≠ i := by
      rintro rfl
      apply h
      rw [hs, UInt8.toNat_ofNat']
      omega
    simp only []
    by_cases hlt : n < i
    · rw [if_pos hlt, if_pos (by omega)]
    · rw [if_neg hlt, if_neg (by omega)]
theorem dmap_here {i : Nat} (h : i < 64) : dmapAt (i + 1) (signP i).toNat = i := by
  unfold dmapAt
  rw [show UInt8.ofNat (signP i).toNat = signP i from UInt8.ofNat_toNat, digit_sign' h]
  exact if_pos (by omega)
theorem dmap_before {i : Nat} (h : i < 64) : dmapAt i (signP i).toNat = 255 := by
  unfold dmapAt
  rw [show UInt8.ofNat (signP i).toNat = signP i from UInt8.ofNat_toNat, digit_sign' h]
  exact if_neg (by omega)
theorem dmap_sign {i : Nat} (h : i < 64) : dmapAt 64 (signP i).toNat = i := by
  unfold dmapAt
  rw [show UInt8.ofNat (signP i).toNat = signP i from UInt8.ofNat_toNat, digit_sign' h]
  exact if_pos h
theorem dmap_zero (j : Nat) : dmapAt 0 j = 255 := by
  unfold dmapAt
  split <;> rfl

def encL (i : Nat) : List Value := (List.range 64).map (fun k => byteV (signP k)) ++ ((List.range 256).map (fun j => Value.int .u8 (dmapAt i j : Int)) ++ [.int .i32 61, .bool false])
theorem encL_len (i : Nat) : (encL i).length = 322 := by
  unfold encL
  simp only [List.length_append, List.length_map, List.length_range, List.length_cons, List.length_nil]
theorem encL_sign (i k : Nat) (h : k < 64) : (encL i)[k]? = some (byteV (signP k)) := by
  unfold encL
  rw [List.getElem?_append_left (by rw [List.length_map, List.length_range]; exact h), List.getElem?_map, List.getElem?_range h]
  rfl
theorem encL_map (i j : Nat) (h : j < 256) : (encL i)[64 + j]? = some (.int .u8 (dmapAt i j : Int)) := by
  unfold encL
  rw [List.getElem?_append_right (by rw [List.length_map, List.length_range]; omega), List.length_map, List.length_range, Nat.add_sub_cancel_left,
    List.getElem?_append_left (by rw [List.length_map, List.length_range]; exact h), List.getElem?_map, List.getElem?_range h]
  rfl
theorem encL_end (i k : Nat) : (encL i)[320 + k]? = [Value.int .i32 61, .bool false][k]? := by
  unfold encL
  rw [List.getElem?_append_right (by rw [List.length_map, List.length_range]; omega), List.length_map, List.length_range,
    List.getElem?_append_right (by rw [List.length_map, List.length_range]; omega), List.length_map, List.length_range]
  rw [show 320 + k - 64 - 256 = k by omega]
theorem encL_set {i : Nat} (h : i < 64) : (encL i).set (64 + (signP i).toNat) (.int .u8 (i : Int)) = encL (i + 1) := by
  have hs := (signP i).toNat_lt
  apply List.ext_getElem?
  intro p
  by_cases hp : 64 + (signP i).toNat = p
  · subst hp
    rw [List.getElem?_set_self (by rw [encL_len]; omega), encL_map _ _ (by omega), dmap_here h]
  · rw [List.getElem?_set_ne hp]
    by_cases h1 : p < 64
    · rw [encL_sign _ _ h1, encL_sign _ _ h1]
    · by_cases h2 : p < 320
      · obtain ⟨j, rfl⟩ : ∃ j, p = 64 + j := ⟨p - 64, by omega⟩
        rw [encL_map _ _ (by omega), encL_map _ _ (by omega), dmap_step (by omega) (by omega)]
      · obtain ⟨k, rfl⟩ : ∃ k, p = 320 + k := ⟨p - 320, by omega⟩
        rw [encL_end, encL_end]
/-- The cells of the standard encoding. -/
def encC : Array Value := (encL 64).toArray
theorem encC_map (j : Nat) (h : j < 256) : encC[64 + j]? = some (.int .u8 (dmapAt 64 j : Int)) := by
  unfold encC
  rw [List.getElem?_toArray]
  exact encL_map 64 j h
theorem encC_pad : encC[320]? = some (.int .i32 61) := by
  unfold encC
  rw [List.getElem?_toArray]
  exact encL_end 64 0
theorem encC_strict : encC[321]? = some (.bool false) := by
  unfold encC
  rw [List.getElem?_toArray]
  exact encL_end 64 1
theorem encC_sign (k : Nat) (h : k < 64) : encC[k]? = some (byteV (signP k)) := by
  unfold encC
  rw [List.getElem?_toArray]
  exact encL_sign 64 k h

end Go.Proofs.YtoeepfmmceilaaaGreatDoor
