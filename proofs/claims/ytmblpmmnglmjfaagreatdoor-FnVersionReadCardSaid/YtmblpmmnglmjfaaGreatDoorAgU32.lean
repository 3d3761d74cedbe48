/- binary.BigEndian.Uint32. Taken from the first seat's text. -/
import Derived.Test.YtmblpmmnglmjfaaGreatDoorAgInfo
set_option linter.unusedVariables false
set_option linter.unusedSimpArgs false
namespace Go.Proofs.YtmblpmmnglmjfaaGreatDoor
open Go.RowKit

theorem first4 {xs : List UInt8} (h : 4 ≤ xs.length) : ∃ a b c d r, xs = a :: b :: c :: d :: r := by
  match xs, h with
  | a :: b :: c :: d :: r, _ => exact ⟨a, b, c, d, r, rfl⟩
/-- The number that four bytes ahead are. -/
def headN (xs : List UInt8) : Nat := be32l (xs.take 4)
theorem or_le32 (a b c d : UInt8) : bits .or .u32 (bits .or .u32 (bits .or .u32 (d.toNat : Int) ((c.toNat : Int) * 256)) ((b.toNat : Int) * 65536)) ((a.toNat : Int) * 16777216) = ((be32 a b c d : Nat) : Int) := by
  have ha := a.toNat_lt
  have hb := b.toNat_lt
  have hc := c.toNat_lt
  have hd := d.toNat_lt
  have e1 : ((a.toNat : Int) * 16777216) = ((a.toNat * 16777216 : Nat) : Int) := by omega
  have e2 : ((b.toNat : Int) * 65536) = ((b.toNat * 65536 : Nat) : Int) := by omega
  have e3 : ((c.toNat : Int) * 256) = ((c.toNat * 256 : Nat) : Int) := by omega
  have o1 : d.toNat ||| c.toNat * 256 = c.toNat * 256 + d.toNat := by rw [Nat.or_comm]; exact nat_or_add c.toNat d.toNat 8 (by omega)
  have o2 : (c.toNat * 256 + d.toNat) ||| b.toNat * 65536 = b.toNat * 65536 + (c.toNat * 256 + d.toNat) := by rw [Nat.or_comm]; exact nat_or_add b.toNat (c.toNat * 256 + d.toNat) 16 (by omega)
  have o3 : (b.toNat * 65536 + (c.toNat * 256 + d.toNat)) ||| a.toNat * 16777216 = a.toNat * 16777216 + (b.toNat * 65536 + (c.toNat * 256 + d.toNat)) := by rw [Nat.or_comm]; exact nat_or_add a.toNat _ 24 (by omega)
  rw [e1, e2, e3, u32_or_nat _ _ (by omega) (by omega), o1, u32_or_nat _ _ (by omega) (by omega), o2, u32_or_nat _ _ (by omega) (by omega), o3]
  unfold be32
  omega
set_option maxHeartbeats 400000 in
theorem beU32_any (ok : Nat → Prop) (A : Option Addr) (c : Nat) (xs : List UInt8) (w : World) (h4 : 4 ≤ xs.length) (hr : RR (lit byteV) ok w A xs) :
    Calls Tryz.prog 30 #[.agg #[], .slice A xs.length c] w fun e w' => e = .returned (.int .u32 (headN xs : Int)) ∧ Below w.heap.size w w' := by
  obtain ⟨x0, x1, x2, x3, r, hx⟩ := first4 h4
  obtain ⟨ad, rfl, _, hc⟩ := RB.at hr (by omega)
  have c0 : w.cell? ad = _ := hc 0 x0 (by rw [hx]; rfl)
  have c1 : w.cell? ⟨ad.block, ad.off + 1, none⟩ = _ := hc 1 x1 (by rw [hx]; rfl)
  have c2 : w.cell? ⟨ad.block, ad.off + 2, none⟩ = _ := hc 2 x2 (by rw [hx]; rfl)
  have c3 : w.cell? ⟨ad.block, ad.off + 3, none⟩ = _ := hc 3 x3 (by rw [hx]; rfl)
  have b0 := byte_le x0
  have b1 := byte_le x1
  have b2 := byte_le x2
  have b3 := byte_le x3
  have hlt : ad.block < w.heap.size := by have := blk_lt_of_cell c0; exact this
  have HX := Lib.hid hx
  have h4' : (4 : Int) ≤ (xs.length : Int) := by omega
  have e1 := or_le32 x0 x1 x2 x3
  have E1 := Lib.hid e1
  clear hr hc hx e1
  go_enter Tryz.func30, Tryz.ntmps30
  go_wp2_with fail
  go_quiet (fail)
  go_wp2
  go_ret
  have hn : headN xs = be32 x0 x1 x2 x3 := by unfold headN; rw [HX.out]; rfl
  rw [hn]
  refine ⟨congrArg (fun n => Ending.returned (.int .u32 n)) E1.out, ?_⟩
  have h1 : Below w.heap.size w (w.alloc (.cells #[] 85)) := (Below.refl _ _).alloc (Nat.le_refl _) _
  exact ⟨h1.os, h1.tape, h1.output, h1.size, h1.block⟩
theorem headN_lt (xs : List UInt8) : headN xs < 4294967296 := by
  unfold headN
  match h : xs.take 4 with
  | [] => exact (show (0 : Nat) < 4294967296 by omega)
  | [a] => exact (show (0 : Nat) < 4294967296 by omega)
  | [a, b] => exact (show (0 : Nat) < 4294967296 by omega)
  | [a, b, c] => exact (show (0 : Nat) < 4294967296 by omega)
  | [a, b, c, d] => exact be32_lt a b c d
  | a :: b :: c :: d :: e :: r => have := congrArg List.length h; simp at this; omega

end Go.Proofs.YtmblpmmnglmjfaaGreatDoor
