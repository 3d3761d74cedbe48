/- x/crypto's readers of plain parts: Uint32, parseUint32, parseString. Taken from the first seat's text. -/
import Derived.Test.YtoeepfmmceilaaaGreatDoorLnBytes
set_option linter.unusedVariables false
set_option linter.unusedSimpArgs false
namespace Go.Proofs.YtoeepfmmceilaaaGreatDoor
open Go.RowKit

theorem first4 {xs : List UInt8} (h : 4 ≤ xs.length) : ∃ a b c d r, xs = a :: b :: c :: d :: r := by
  match xs, h with
  | a :: b :: c :: d :: r, _ => exact ⟨a, b, c, d, r, rfl⟩
/-- The number that four bytes ahead are. -/
def headN (xs : List UInt8) : Nat := be32l (xs.take 4)
theorem or_le32 (a b c d : UInt8) : bits .or .u32 (bits .or .u32 (bits .or .u32 (d.toNat : Int) ((c.toNat : Int) * 256)) ((b.toNat : Int) * 65536)) ((a.toNat : Int) * 16777216) = ((be32 a b c d : Nat) : Int) := by
  have ha := a.toNat_lt
  have hb := b.toNat_lt
  have hc := c.toNat_lt
  have hd := d.toNat_lt
  have e1 : ((a.toNat : Int) * 16777216) = ((a.toNat * 16777216 : Nat) : Int) := by omega
  have e2 : ((b.toNat : Int) * 65536) = ((b.toNat * 65536 : Nat) : Int) := by omega
  have e3 : ((c.toNat : Int) * 256) = ((c.toNat * 256 : Nat) : Int) := by omega
  have o1 : d.toNat ||| c.toNat * 256 = c.toNat * 256 + d.toNat := by rw [Nat.or_comm]; exact nat_or_add c.toNat d.toNat 8 (by omega)
  have o2 : (c.toNat * 256 + d.toNat) ||| b.toNat * 65536 = b.toNat * 65536 + (c.toNat * 256 + d.toNat) := by rw [Nat.or_comm]; exact nat_or_add b.toNat (c.toNat * 256 + d.toNat) 16 (by omega)
  have o3 : (b.toNat * 65536 + (c.toNat * 256 + d.toNat)) ||| a.toNat * 16777216 = a.toNat * 16777216 + (b.toNat * 65536 + (c.toNat * 256 + d.toNat)) := by rw [Nat.or_comm]; exact nat_or_add a.toNat _ 24 (by omega)
  rw [e1, e2, e3, u32_or_nat _ _ (by omega) (by omega), o1, u32_or_nat _ _ (by omega) (by omega), o2, u32_or_nat _ _ (by omega) (by omega), o3]
  unfold be32
  omega

set_option maxHeartbeats 400000 in
theorem beU32_any (ok : Nat → Prop) (A : Option Addr) (c : Nat) (xs : List UInt8) (w : World) (h4 : 4 ≤ xs.length) (hr : RR (lit byteV) ok w A xs) :
    Calls Tryz.prog 128 #[.agg #[], .slice A xs.length c] w fun e w' => e = .returned (.int .u32 (headN xs : Int)) ∧ Below w.heap.size w w' := by
  obtain ⟨x0, x1, x2, x3, r, hx⟩ := first4 h4
  obtain ⟨ad, rfl, _, hc⟩ := RB.at hr (by omega)
  have c0 : w.cell? ad = _ := hc 0 x0 (by rw [hx]; rfl)
  have c1 : w.cell? ⟨ad.block, ad.off + 1, none⟩ = _ := hc 1 x1 (by rw [hx]; rfl)
  have c2 : w.cell? ⟨ad.block, ad.off + 2, none⟩ = _ := hc 2 x2 (by rw [hx]; rfl)
  have c3 : w.cell? ⟨ad.block, ad.off + 3, none⟩ = _ := hc 3 x3 (by rw [hx]; rfl)
  have b0 := byte_le x0
  have b1 := byte_le x1
  have b2 := byte_le x2
  have b3 := byte_le x3
  have hlt : ad.block < w.heap.size := by have := blk_lt_of_cell c0; exact this
  have HX := Lib.hid hx
  have h4' : (4 : Int) ≤ (xs.length : Int) := by omega
  have e1 := or_le32 x0 x1 x2 x3
  have E1 := Lib.hid e1
  clear hr hc hx e1
  go_enter Tryz.func128, Tryz.ntmps128
  go_wp2_with fail
  go_quiet (fail)
  go_wp2
  go_ret
  have hn : headN xs = be32 x0 x1 x2 x3 := by unfold headN; rw [HX.out]; rfl
  rw [hn]
  refine ⟨congrArg (fun n => Ending.returned (.int .u32 n)) E1.out, ?_⟩
  have h1 : Below w.heap.size w (w.alloc (.cells #[] 192)) := (Below.refl _ _).alloc (Nat.le_refl _) _
  exact ⟨h1.os, h1.tape, h1.output, h1.size, h1.block⟩

theorem headN_lt (xs : List UInt8) : headN xs < 4294967296 := by
  unfold headN
  match h : xs.take 4 with
  | [] => exact (show (0 : Nat) < 4294967296 by omega)
  | [a] => exact (show (0 : Nat) < 4294967296 by omega)
  | [a, b] => exact (show (0 : Nat) < 4294967296 by omega)
  | [a, b, c] => exact (show (0 : Nat) < 4294967296 by omega)
  | [a, b, c, d] => exact be32_lt a b c d
  | a :: b :: c :: d :: e :: r => have := congrArg List.length h; simp at this; omega

set_option maxHeartbeats 400000 in
theorem parseU32_short (A : Option Addr) (c : Nat) (xs : List UInt8) (w : World) (h4 : xs.length < 4) :
    Calls Tryz.prog 155 #[.slice A xs.length c] w fun e w' => e = .returned (.tuple #[.int .u32 0, .slice none 0 0, .bool false]) ∧ w = w' := by
  go_enter Tryz.func155, Tryz.ntmps155
  go_wp2
  go_ret3
  exact ⟨rfl, rfl⟩
set_option maxHeartbeats 400000 in
theorem parseU32_ok (ok : Nat → Prop) (A : Option Addr) (c : Nat) (xs : List UInt8) (w : World) (h4 : 4 ≤ xs.length) (hc : xs.length ≤ c) (hm : c ≤ 9223372036854775807) (hr : RR (lit byteV) ok w A xs) :
    Calls Tryz.prog 155 #[.slice A xs.length c] w fun e w' => ∃ A' c', e = .returned (.tuple #[.int .u32 (headN xs : Int), .slice A' (xs.drop 4).length c', .bool true]) ∧ Byts ok w' (.slice A' (xs.drop 4).length c') (xs.drop 4) ∧ Below w.heap.size w w' := by
  obtain ⟨i0, hi0, _, hsz, _⟩ := info_parts info_u8
  obtain ⟨A1, ys, r0, e1, l1, q1⟩ := cut_from (P := Tryz.prog) 28 5 .i64 Tryz.underlying28 hi0 hsz A c xs 4 h4 hc
  have r1 : ∀ W : World, (Instr.slice 28 (.slice A xs.length c) (some (.int .i64 4)) none none).run Tryz.prog W = .ok (.slice A1 ys.length (c - 4)) W := r0
  clear r0
  have HR := Lib.hid hr
  have HB := fun W (hW : RR (lit byteV) ok W A xs) => beU32_any ok A c xs W h4 hW
  have HBB := Lib.hid HB
  have h4' : (4 : Int) ≤ (xs.length : Int) := by omega
  clear hi0 hsz hr HB
  go_enter Tryz.func155, Tryz.ntmps155
  go_wp2_with fail
  go_region_law ((go_simp; go_at_call 128; refine (HBB.out _ (RR.keep HR.out (lit_steady _) ((Keep.refl _ w).drewN _))).mono ?_; rintro e w2 ⟨rfl, hb2⟩; have HB2 := Lib.hid hb2; clear hb2))
  all_goals
    go_wp2
    go_ret3
    rw [← e1.out]
    have hb : Below w.heap.size w w2 := ⟨HB2.out.os, HB2.out.tape, HB2.out.output, HB2.out.size, HB2.out.block⟩
    exact ⟨A1, c - 4, rfl, ⟨A1, c - 4, rfl, l1, by omega, RR.keep (q1 _ _ _ HR.out) (lit_steady _) (Keep.of_below hb)⟩, hb⟩

/-! ### parseString -/
/-- What parseString reads, and what is behind it. -/
def psP (xs : List UInt8) : Option (List UInt8 × List UInt8) :=
  if xs.length < 4 then none
  else if (xs.drop 4).length < headN xs then none
  else some ((xs.drop 4).take (headN xs), (xs.drop 4).drop (headN xs))
set_option maxHeartbeats 400000 in
theorem parseStr_none (ok : Nat → Prop) (A : Option Addr) (c : Nat) (xs : List UInt8) (w : World) (hl : xs.length < 4294967296) (hc : xs.length ≤ c) (hm : c ≤ 9223372036854775807) (hr : RR (lit byteV) ok w A xs) (h : psP xs = none) :
    Calls Tryz.prog 101 #[.slice A xs.length c] w fun e w' => e = .returned (.tuple #[.slice none 0 0, .slice none 0 0, .bool false]) ∧ Below w.heap.size w w' := by
  by_cases h4 : xs.length < 4
  · clear h
    go_enter Tryz.func101, Tryz.ntmps101
    go_wp2
    go_ret3
    exact ⟨rfl, Below.refl _ _⟩
  · obtain ⟨i0, hi0, _, hsz, _⟩ := info_parts info_u8
    obtain ⟨A1, ys, r0, e1, l1, q1⟩ := cut_from (P := Tryz.prog) 28 5 .i64 Tryz.underlying28 hi0 hsz A c xs 4 (by omega) hc
    have r1 : ∀ W : World, (Instr.slice 28 (.slice A xs.length c) (some (.int .i64 4)) none none).run Tryz.prog W = .ok (.slice A1 ys.length (c - 4)) W := r0
    clear r0
    have hlt : ys.length < headN xs := by
      unfold psP at h
      rw [if_neg h4] at h
      rw [e1.out]
      split at h
      · assumption
      · cases h
    have hyl : ys.length < 4294967296 := by rw [e1.out, List.length_drop]; omega
    have HB := Lib.hid (beU32_any ok A c xs w (by omega) hr)
    obtain ⟨n, hn⟩ : ∃ n, n = headN xs := ⟨_, rfl⟩
    have hnl := headN_lt xs
    rw [← hn] at hlt hnl HB
    have h4' : ¬ (xs.length : Int) < 4 := by omega
    clear hi0 hsz hr h h4 hn
    go_enter Tryz.func101, Tryz.ntmps101
    go_wp2_with (go_at_call 128; refine HB.out.mono ?_; rintro e w2 ⟨rfl, hb2⟩; have HB2 := Lib.hid hb2; clear hb2)
    go_ret3
    exact ⟨rfl, HB2.out⟩
set_option maxHeartbeats 400000 in
theorem parseStr_some (ok : Nat → Prop) (A : Option Addr) (c : Nat) (xs s rest : List UInt8) (w : World) (hl : xs.length < 4294967296) (hc : xs.length ≤ c) (hm : c ≤ 9223372036854775807) (hr : RR (lit byteV) ok w A xs) (h : psP xs = some (s, rest)) :
    Calls Tryz.prog 101 #[.slice A xs.length c] w fun e w' => ∃ A1 c1 A2 c2, e = .returned (.tuple #[.slice A1 s.length c1, .slice A2 rest.length c2, .bool true]) ∧ Byts ok w' (.slice A1 s.length c1) s ∧ Byts ok w' (.slice A2 rest.length c2) rest ∧ Below w.heap.size w w' := by
  obtain ⟨i0, hi0, _, hsz, _⟩ := info_parts info_u8
  have h4 : 4 ≤ xs.length := by
    unfold psP at h
    split at h
    · cases h
    · omega
  obtain ⟨A1, ys, r0, e1, l1, q1⟩ := cut_from (P := Tryz.prog) 28 5 .i64 Tryz.underlying28 hi0 hsz A c xs 4 (by omega) hc
  have r1 : ∀ W : World, (Instr.slice 28 (.slice A xs.length c) (some (.int .i64 4)) none none).run Tryz.prog W = .ok (.slice A1 ys.length (c - 4)) W := r0
  clear r0
  have hps : headN xs ≤ ys.length ∧ s = ys.take (headN xs) ∧ rest = ys.drop (headN xs) := by
    unfold psP at h
    rw [if_neg (by omega), ← e1.out] at h
    split at h
    · cases h
    · injection h with h
      injection h with h1 h2
      exact ⟨by omega, h1.symm, h2.symm⟩
  obtain ⟨hle, hs, hrest⟩ := hps
  have hyl : ys.length < 4294967296 := by rw [e1.out, List.length_drop]; omega
  have HB := Lib.hid (beU32_any ok A c xs w (by omega) hr)
  obtain ⟨n, hn⟩ : ∃ n, n = headN xs := ⟨_, rfl⟩
  have hnl := headN_lt xs
  rw [← hn] at hle hnl HB hs hrest
  obtain ⟨A2, zs, r2, e2, l2, q2⟩ := cut_to (P := Tryz.prog) 28 5 .u32 Tryz.underlying28 hi0 hsz A1 (c - 4) ys n hle l1
  obtain ⟨A3, us, r3, e3, l3, q3⟩ := cut_from (P := Tryz.prog) 28 5 .u32 Tryz.underlying28 hi0 hsz A1 (c - 4) ys n hle l1
  obtain rfl : zs = s := by rw [hs]; exact e2.out
  obtain rfl : us = rest := by rw [hrest]; exact e3.out
  have HR := Lib.hid hr
  have h4' : ¬ (xs.length : Int) < 4 := by omega
  clear hi0 hsz hr h h4 hn hs hrest
  go_enter Tryz.func101, Tryz.ntmps101
  go_wp2_with (go_at_call 128; refine HB.out.mono ?_; rintro e w2 ⟨rfl, hb2⟩; have HB2 := Lib.hid hb2; clear hb2)
  go_ret3
  have h5 := RR.keep (q1 _ _ _ HR.out) (lit_steady _) (Keep.of_below HB2.out)
  exact ⟨A2, c - 4, A3, c - 4 - n, rfl, ⟨A2, c - 4, rfl, l2, by omega, q2 _ _ _ h5⟩, ⟨A3, c - 4 - n, rfl, l3, by omega, q3 _ _ _ h5⟩, HB2.out⟩


end Go.Proofs.YtoeepfmmceilaaaGreatDoor
