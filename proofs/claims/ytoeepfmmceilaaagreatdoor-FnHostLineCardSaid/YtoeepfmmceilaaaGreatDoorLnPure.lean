/- Base 64 as plain functions. No program stands here. -/
set_option linter.unusedVariables false
set_option linter.unusedSimpArgs false
namespace Go.Proofs.YtoeepfmmceilaaaGreatDoor

/-- The sign of a number below 64. -/
def signP (n : Nat) : UInt8 := if n < 26 then UInt8.ofNat (n + 65) else if n < 52 then UInt8.ofNat (n + 71) else if n < 62 then UInt8.ofNat (n - 4) else if n = 62 then 43 else 47
/-- The number of a sign; none: it is no sign of base 64. -/
def digitP (c : UInt8) : Option Nat :=
  if 65 ≤ c.toNat ∧ c.toNat ≤ 90 then some (c.toNat - 65) else if 97 ≤ c.toNat ∧ c.toNat ≤ 122 then some (c.toNat - 71) else if 48 ≤ c.toNat ∧ c.toNat ≤ 57 then some (c.toNat + 4) else if c.toNat = 43 then some 62 else if c.toNat = 47 then some 63 else none
def alphabet : List UInt8 := (List.range 64).map signP
theorem digit_sign : ∀ n : Fin 64, digitP (signP n.val) = some n.val := by decide
theorem digit_sign' {n : Nat} (h : n < 64) : digitP (signP n) = some n := digit_sign ⟨n, h⟩
theorem digit_lt {c : UInt8} {n : Nat} (h : digitP c = some n) : n < 64 := by
  unfold digitP at h
  split at h
  · injection h with h; omega
  split at h
  · injection h with h; omega
  split at h
  · injection h with h; omega
  split at h
  · injection h with h; omega
  split at h
  · injection h with h; omega
  cases h
theorem sign_ne_pad : ∀ n : Fin 64, signP n.val ≠ 61 := by decide

/-- Bytes in base 64, with padding. -/
def b64P : List UInt8 → List UInt8
  | a :: b :: c :: r => signP (a.toNat / 4) :: signP (a.toNat % 4 * 16 + b.toNat / 16) :: signP (b.toNat % 16 * 4 + c.toNat / 64) :: signP (c.toNat % 64) :: b64P r
  | [a, b] => [signP (a.toNat / 4), signP (a.toNat % 4 * 16 + b.toNat / 16), signP (b.toNat % 16 * 4), 61]
  | [a] => [signP (a.toNat / 4), signP (a.toNat % 4 * 16), 61, 61]
  | [] => []
theorem b64P_len : ∀ l : List UInt8, (b64P l).length = (l.length + 2) / 3 * 4
  | a :: b :: c :: r => by
    have := b64P_len r
    simp only [b64P, List.length_cons, this]
    omega
  | [a, b] => by simp [b64P]
  | [a] => by simp [b64P]
  | [] => rfl

/-- Three bytes out of four numbers. -/
def q3 (a b c d : Nat) : List UInt8 := [UInt8.ofNat (a * 4 + b / 16), UInt8.ofNat (b % 16 * 16 + c / 4), UInt8.ofNat (c % 4 * 64 + d)]
/-- What base 64 with padding says (leftover bits are not looked at); none: it is none. -/
def decQ : List UInt8 → Option (List UInt8)
  | [] => some []
  | a :: b :: c :: d :: r => match digitP a, digitP b with
    | some x, some y => match digitP c with
      | some z => match digitP d with
        | some u => (decQ r).map fun l => q3 x y z u ++ l
        | none => if d = 61 ∧ r = [] then some ((q3 x y z 0).take 2) else none
      | none => if c = 61 ∧ d = 61 ∧ r = [] then some ((q3 x y 0 0).take 1) else none
    | _, _ => none
  | _ => none
theorem byte_of {n : Nat} {a : UInt8} (h : n = a.toNat) : UInt8.ofNat n = a := by rw [h]; exact UInt8.ofNat_toNat
/-- What has been written is read. -/
theorem decQ_b64 : ∀ l : List UInt8, decQ (b64P l) = some l
  | a :: b :: c :: r => by
    have ha := a.toNat_lt
    have hb := b.toNat_lt
    have hc := c.toNat_lt
    rw [b64P, decQ, digit_sign' (by omega), digit_sign' (by omega)]
    simp only []
    rw [digit_sign' (by omega), digit_sign' (by omega)]
    simp only []
    rw [decQ_b64 r]
    simp only [Option.map_some, q3]
    rw [byte_of (a := a) (by omega), byte_of (a := b) (by omega), byte_of (a := c) (by omega)]
    rfl
  | [a, b] => by
    have ha := a.toNat_lt
    have hb := b.toNat_lt
    rw [b64P, decQ, digit_sign' (by omega), digit_sign' (by omega)]
    simp only []
    rw [digit_sign' (by omega)]
    simp only []
    rw [show digitP 61 = none by decide]
    simp only [q3]
    rw [if_pos ⟨by decide, trivial⟩, byte_of (a := a) (by omega), byte_of (a := b) (by omega)]
    rfl
  | [a] => by
    have ha := a.toNat_lt
    rw [b64P, decQ, digit_sign' (by omega), digit_sign' (by omega)]
    simp only []
    rw [show digitP 61 = none by decide]
    simp only [q3]
    rw [if_pos ⟨by decide, by decide, trivial⟩, byte_of (a := a) (by omega)]
    rfl
  | [] => rfl

end Go.Proofs.YtoeepfmmceilaaaGreatDoor
