/- The bytes of an Ed25519 key, as the reader of fields takes them. -/
import Derived.Test.YtoeepfmmceilaaaGreatDoorLnUnm
import Derived.Test.YtoeepfmmceilaaaGreatDoorLnLine
set_option linter.unusedVariables false
set_option linter.unusedSimpArgs false
namespace Go.Proofs.YtoeepfmmceilaaaGreatDoor
open Go.RowKit

theorem ofNat8 (n : Nat) : (UInt8.ofNat n).toNat = n % 256 := by simp
theorem be4_cons (n : Nat) (r : List UInt8) : be4 n ++ r = UInt8.ofNat (n / 16777216) :: UInt8.ofNat (n / 65536) :: UInt8.ofNat (n / 256) :: UInt8.ofNat n :: r := rfl
theorem headN_be4 (n : Nat) (r : List UInt8) (h : n < 4294967296) : headN (be4 n ++ r) = n := by
  unfold headN
  rw [be4_cons]
  simp only [List.take_succ_cons, List.take_zero]
  show be32 _ _ _ _ = n
  unfold be32
  rw [ofNat8, ofNat8, ofNat8, ofNat8]
  omega
theorem drop_be4 (n : Nat) (r : List UInt8) : (be4 n ++ r).drop 4 = r := by
  rw [be4_cons]
  simp only [List.drop_succ_cons, List.drop_zero]
theorem len_be4 (n : Nat) (r : List UInt8) : (be4 n ++ r).length = r.length + 4 := by
  rw [be4_cons]
  simp only [List.length_cons]
theorem strP_be4 (pt : List UInt8) (h : pt.length < 4294967296) : strP pt = be4 pt.length ++ pt := by
  have e : pt.length % 4294967296 = pt.length := Nat.mod_eq_of_lt h
  show be4 (pt.length % 4294967296) ++ pt = _
  exact congrArg (fun n => be4 n ++ pt) e
theorem psP_be4 (pt r : List UInt8) (hn : headN (be4 pt.length ++ (pt ++ r)) = pt.length) : psP (be4 pt.length ++ (pt ++ r)) = some (pt, r) := by
  have h1 : ¬ (be4 pt.length ++ (pt ++ r)).length < 4 := by rw [len_be4]; omega
  have h2 : ¬ (pt ++ r).length < pt.length := by rw [List.length_append]; omega
  unfold psP
  rw [drop_be4, hn, if_neg h1, if_neg h2, List.take_left, List.drop_left]
theorem psP_str (pt r : List UInt8) (h : pt.length < 4294967296) : psP (strP pt ++ r) = some (pt, r) := by
  rw [strP_be4 pt h, List.append_assoc]
  exact psP_be4 pt r (headN_be4 _ _ h)
theorem rdAll_cons {c : UInt8} {r xs ys : List UInt8} {f : Fv} (h : rd1 c xs = some (f, ys)) : rdAll (c :: r) xs = (rdAll r ys).map fun p => (f :: p.1, p.2) := by
  show (match rd1 c xs with | none => none | some q => (rdAll r q.2).map fun (p : List Fv × List UInt8) => (q.1 :: p.1, p.2)) = _
  rw [h]
theorem rd1_b {xs a b : List UInt8} (h : psP xs = some (a, b)) : rd1 98 xs = some (.b a, b) := by
  unfold rd1
  rw [if_pos rfl, h]
  rfl
theorem rd1_s {xs a b : List UInt8} (h : psP xs = some (a, b)) : rd1 115 xs = some (.s a, b) := by
  unfold rd1
  rw [if_neg (by decide), if_pos rfl, h]
  rfl
theorem rd1_r (xs : List UInt8) : rd1 114 xs = some (.r xs, []) := by
  unfold rd1
  rw [if_neg (by decide), if_neg (by decide)]
theorem rd_ed (pt : List UInt8) (h : pt.length < 4294967296) : rdAll [98, 114] (strP pt) = some ([.b pt, .r []], []) := by
  have := psP_str pt [] h
  rw [List.append_nil] at this
  rw [rdAll_cons (rd1_b this), rdAll_cons (rd1_r [])]
  rfl

end Go.Proofs.YtoeepfmmceilaaaGreatDoor
