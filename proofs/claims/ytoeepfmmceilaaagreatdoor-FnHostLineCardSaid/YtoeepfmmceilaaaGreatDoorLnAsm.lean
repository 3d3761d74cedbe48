/- base64's assemble64 and assemble32, byteorder's BEPutUint64 and BEPutUint32. -/
import Derived.Test.YtoeepfmmceilaaaGreatDoorLnEnc
set_option linter.unusedVariables false
set_option linter.unusedSimpArgs false
namespace Go.Proofs.YtoeepfmmceilaaaGreatDoor
open Go.RowKit

theorem set_at' {cs : Array Value} {i : Nat} {u : Value} (h : i < cs.size) : (cs.setIfInBounds i u)[i]? = some u := Array.getElem?_setIfInBounds_self_of_lt h
theorem or8_lt (a b : Nat) (ha : a < 64) (hb : b < 64) : ∃ r : Nat, r < 64 ∧ bits .or .u8 (a : Int) (b : Int) = (r : Int) := ⟨a ||| b, Nat.or_lt_two_pow (n := 6) ha hb, u8_or_nat a b (by omega) (by omega)⟩
theorem or_up (A d k P Q : Nat) (hP : P = 64 * Q) (hQ : Q = 2 ^ k) (hd : d < 64) (h : (A * 64 + d) * Q < 18446744073709551616) : bits .or .u64 ((A : Int) * (P : Int)) ((d : Int) * (Q : Int)) = ((A * 64 + d : Nat) : Int) * (Q : Int) := by
  have hk : 0 < 2 ^ k := Nat.two_pow_pos k
  have e1 : (A * 64 + d) * Q = A * P + d * Q := by rw [hP, Nat.add_mul, Nat.mul_assoc]
  have hdq : d * Q < 2 ^ (k + 6) := by
    rw [Nat.pow_add, ← hQ, Nat.mul_comm]
    exact Nat.mul_lt_mul_of_pos_left hd (by rw [hQ]; exact hk)
  have n1 : A * P ||| d * Q = A * P + d * Q := by
    have := nat_or_add A (d * Q) (k + 6) hdq
    rw [Nat.pow_add, ← hQ, show Q * 2 ^ 6 = P by rw [hP, Nat.mul_comm]] at this
    exact this
  have o1 := u64_or_nat (A * P) (d * Q) (by rw [e1] at h; exact Nat.lt_of_le_of_lt (Nat.le_add_right _ _) h) (by rw [e1] at h; exact Nat.lt_of_le_of_lt (Nat.le_add_left _ _) h)
  rw [n1, ← e1, Int.natCast_mul, Int.natCast_mul, Int.natCast_mul] at o1
  exact o1

set_option maxRecDepth 100000 in
set_option maxHeartbeats 1600000 in
theorem asm64 (w : World) (d0 d1 d2 d3 d4 d5 d6 d7 : Nat) (h0 : d0 < 64) (h1 : d1 < 64) (h2 : d2 < 64) (h3 : d3 < 64) (h4 : d4 < 64) (h5 : d5 < 64) (h6 : d6 < 64) (h7 : d7 < 64) :
    Calls Tryz.prog 120 #[.int .u8 (d0 : Int), .int .u8 (d1 : Int), .int .u8 (d2 : Int), .int .u8 (d3 : Int), .int .u8 (d4 : Int), .int .u8 (d5 : Int), .int .u8 (d6 : Int), .int .u8 (d7 : Int)] w fun e w' =>
      e = .returned (.tuple #[.int .u64 (((((((((d0 * 64 + d1) * 64 + d2) * 64 + d3) * 64 + d4) * 64 + d5) * 64 + d6) * 64 + d7 : Nat) : Int) * 65536), .bool true]) ∧ w' = w := by
  obtain ⟨r1, l1, e1⟩ := or8_lt d0 d1 h0 h1
  obtain ⟨r2, l2, e2⟩ := or8_lt r1 d2 l1 h2
  obtain ⟨r3, l3, e3⟩ := or8_lt r2 d3 l2 h3
  obtain ⟨r4, l4, e4⟩ := or8_lt r3 d4 l3 h4
  obtain ⟨r5, l5, e5⟩ := or8_lt r4 d5 l4 h5
  obtain ⟨r6, l6, e6⟩ := or8_lt r5 d6 l5 h6
  obtain ⟨r7, l7, e7⟩ := or8_lt r6 d7 l6 h7
  have hne : ((r7 : Int) == 255) = false := by simp only [beq_eq_false_iff_ne, ne_eq]; omega
  obtain ⟨u1, hu1⟩ : ∃ u : Nat, u = d0 * 64 + d1 := ⟨_, rfl⟩
  obtain ⟨u2, hu2⟩ : ∃ u : Nat, u = u1 * 64 + d2 := ⟨_, rfl⟩
  obtain ⟨u3, hu3⟩ : ∃ u : Nat, u = u2 * 64 + d3 := ⟨_, rfl⟩
  obtain ⟨u4, hu4⟩ : ∃ u : Nat, u = u3 * 64 + d4 := ⟨_, rfl⟩
  obtain ⟨u5, hu5⟩ : ∃ u : Nat, u = u4 * 64 + d5 := ⟨_, rfl⟩
  obtain ⟨u6, hu6⟩ : ∃ u : Nat, u = u5 * 64 + d6 := ⟨_, rfl⟩
  obtain ⟨u7, hu7⟩ : ∃ u : Nat, u = u6 * 64 + d7 := ⟨_, rfl⟩
  rw [← hu1, ← hu2, ← hu3, ← hu4, ← hu5, ← hu6, ← hu7]
  have o1 : bits .or .u64 ((d0 : Int) * 288230376151711744) ((d1 : Int) * 4503599627370496) = (u1 : Int) * 4503599627370496 := by rw [hu1]; exact or_up d0 d1 52 288230376151711744 4503599627370496 (by decide) (by decide) h1 (by omega)
  have o2 : bits .or .u64 ((u1 : Int) * 4503599627370496) ((d2 : Int) * 70368744177664) = (u2 : Int) * 70368744177664 := by rw [hu2]; exact or_up u1 d2 46 4503599627370496 70368744177664 (by decide) (by decide) h2 (by omega)
  have o3 : bits .or .u64 ((u2 : Int) * 70368744177664) ((d3 : Int) * 1099511627776) = (u3 : Int) * 1099511627776 := by rw [hu3]; exact or_up u2 d3 40 70368744177664 1099511627776 (by decide) (by decide) h3 (by omega)
  have o4 : bits .or .u64 ((u3 : Int) * 1099511627776) ((d4 : Int) * 17179869184) = (u4 : Int) * 17179869184 := by rw [hu4]; exact or_up u3 d4 34 1099511627776 17179869184 (by decide) (by decide) h4 (by omega)
  have o5 : bits .or .u64 ((u4 : Int) * 17179869184) ((d5 : Int) * 268435456) = (u5 : Int) * 268435456 := by rw [hu5]; exact or_up u4 d5 28 17179869184 268435456 (by decide) (by decide) h5 (by omega)
  have o6 : bits .or .u64 ((u5 : Int) * 268435456) ((d6 : Int) * 4194304) = (u6 : Int) * 4194304 := by rw [hu6]; exact or_up u5 d6 22 268435456 4194304 (by decide) (by decide) h6 (by omega)
  have o7 : bits .or .u64 ((u6 : Int) * 4194304) ((d7 : Int) * 65536) = (u7 : Int) * 65536 := by rw [hu7]; exact or_up u6 d7 16 4194304 65536 (by decide) (by decide) h7 (by omega)
  clear hu1 hu2 hu3 hu4 hu5 hu6 hu7
  go_enter Tryz.func120, Tryz.ntmps120
  go_wp2_with fail
  go_ret2
  exact ⟨rfl, rfl⟩
set_option maxRecDepth 100000 in
set_option maxHeartbeats 1600000 in
theorem bePut64 (w : World) (gd n dl dc : Nat) (cs : Array Value) (W : Nat) (hW : W < 18446744073709551616) (hd : Blk w gd 5 cs) (hl : 8 ≤ dl) (hcs : n + 8 ≤ cs.size) :
    Calls Tryz.prog 121 #[.slice (some ⟨gd, n, none⟩) dl dc, .int .u64 (W : Int)] w fun e w' => e = .returned (.tuple #[]) ∧ Keep (but gd) w w' ∧ ∃ cs', Blk w' gd 5 cs' ∧ cs'.size = cs.size ∧ (∀ i, i < n → cs'[i]? = cs[i]?) ∧
      cs'[n]? = some (.int .u8 ((W / 72057594037927936 % 256 : Nat) : Int)) ∧ cs'[n + 1]? = some (.int .u8 ((W / 281474976710656 % 256 : Nat) : Int)) ∧ cs'[n + 2]? = some (.int .u8 ((W / 1099511627776 % 256 : Nat) : Int)) ∧ cs'[n + 3]? = some (.int .u8 ((W / 4294967296 % 256 : Nat) : Int)) ∧
      cs'[n + 4]? = some (.int .u8 ((W / 16777216 % 256 : Nat) : Int)) ∧ cs'[n + 5]? = some (.int .u8 ((W / 65536 % 256 : Nat) : Int)) := by
  have q0 := hd.cell n |>.trans (Array.getElem?_eq_getElem (by omega))
  have q1 := hd.cell (n + 1) |>.trans (Array.getElem?_eq_getElem (by omega))
  have q2 := hd.cell (n + 2) |>.trans (Array.getElem?_eq_getElem (by omega))
  have q3 := hd.cell (n + 3) |>.trans (Array.getElem?_eq_getElem (by omega))
  have q4 := hd.cell (n + 4) |>.trans (Array.getElem?_eq_getElem (by omega))
  have q5 := hd.cell (n + 5) |>.trans (Array.getElem?_eq_getElem (by omega))
  have q6 := hd.cell (n + 6) |>.trans (Array.getElem?_eq_getElem (by omega))
  have q7 := hd.cell (n + 7) |>.trans (Array.getElem?_eq_getElem (by omega))
  have f0 := hd.frozen n
  have f1 := hd.frozen (n + 1)
  have f2 := hd.frozen (n + 2)
  have f3 := hd.frozen (n + 3)
  have f4 := hd.frozen (n + 4)
  have f5 := hd.frozen (n + 5)
  have f6 := hd.frozen (n + 6)
  have f7 := hd.frozen (n + 7)
  have HD := Lib.hid hd
  clear hd
  go_enter Tryz.func121, Tryz.ntmps121
  go_wp2_with fail
  go_end0
  have s0 : n < cs.size := by omega
  have s1 : n + 1 < cs.size := by omega
  have s2 : n + 2 < cs.size := by omega
  have s3 : n + 3 < cs.size := by omega
  have s4 : n + 4 < cs.size := by omega
  have s5 : n + 5 < cs.size := by omega
  refine ⟨rfl, (((((((((Keep.refl (but gd) w).setCell (fun _ ho => ho rfl) _).setCell (fun _ ho => ho rfl) _).setCell (fun _ ho => ho rfl) _).setCell (fun _ ho => ho rfl) _).setCell (fun _ ho => ho rfl) _).setCell (fun _ ho => ho rfl) _).setCell (fun _ ho => ho rfl) _).setCell (fun _ ho => ho rfl) _), _, ((((((((HD.out.set_ n _).set_ (n + 1) _).set_ (n + 2) _).set_ (n + 3) _).set_ (n + 4) _).set_ (n + 5) _).set_ (n + 6) _).set_ (n + 7) _), by simp only [Array.size_setIfInBounds], fun i hi => ?_, ?_, ?_, ?_, ?_, ?_, ?_⟩
  · rw [Array.getElem?_setIfInBounds_ne (by omega), Array.getElem?_setIfInBounds_ne (by omega), Array.getElem?_setIfInBounds_ne (by omega), Array.getElem?_setIfInBounds_ne (by omega), Array.getElem?_setIfInBounds_ne (by omega), Array.getElem?_setIfInBounds_ne (by omega), Array.getElem?_setIfInBounds_ne (by omega), Array.getElem?_setIfInBounds_ne (by omega)]
  · rw [Array.getElem?_setIfInBounds_ne (by omega), Array.getElem?_setIfInBounds_ne (by omega), Array.getElem?_setIfInBounds_ne (by omega), Array.getElem?_setIfInBounds_ne (by omega), Array.getElem?_setIfInBounds_ne (by omega), Array.getElem?_setIfInBounds_ne (by omega), Array.getElem?_setIfInBounds_ne (by omega), set_at' (by first | omega | (simp only [Array.size_setIfInBounds]; omega))]
    exact congrArg (fun x => some (Value.int .u8 x)) (by omega)
  · rw [Array.getElem?_setIfInBounds_ne (by omega), Array.getElem?_setIfInBounds_ne (by omega), Array.getElem?_setIfInBounds_ne (by omega), Array.getElem?_setIfInBounds_ne (by omega), Array.getElem?_setIfInBounds_ne (by omega), Array.getElem?_setIfInBounds_ne (by omega), set_at' (by first | omega | (simp only [Array.size_setIfInBounds]; omega))]
    exact congrArg (fun x => some (Value.int .u8 x)) (by omega)
  · rw [Array.getElem?_setIfInBounds_ne (by omega), Array.getElem?_setIfInBounds_ne (by omega), Array.getElem?_setIfInBounds_ne (by omega), Array.getElem?_setIfInBounds_ne (by omega), Array.getElem?_setIfInBounds_ne (by omega), set_at' (by first | omega | (simp only [Array.size_setIfInBounds]; omega))]
    exact congrArg (fun x => some (Value.int .u8 x)) (by omega)
  · rw [Array.getElem?_setIfInBounds_ne (by omega), Array.getElem?_setIfInBounds_ne (by omega), Array.getElem?_setIfInBounds_ne (by omega), Array.getElem?_setIfInBounds_ne (by omega), set_at' (by first | omega | (simp only [Array.size_setIfInBounds]; omega))]
    exact congrArg (fun x => some (Value.int .u8 x)) (by omega)
  · rw [Array.getElem?_setIfInBounds_ne (by omega), Array.getElem?_setIfInBounds_ne (by omega), Array.getElem?_setIfInBounds_ne (by omega), set_at' (by first | omega | (simp only [Array.size_setIfInBounds]; omega))]
    exact congrArg (fun x => some (Value.int .u8 x)) (by omega)
  · rw [Array.getElem?_setIfInBounds_ne (by omega), Array.getElem?_setIfInBounds_ne (by omega), set_at' (by first | omega | (simp only [Array.size_setIfInBounds]; omega))]
    exact congrArg (fun x => some (Value.int .u8 x)) (by omega)

end Go.Proofs.YtoeepfmmceilaaaGreatDoor
