/- x/crypto's readers of plain parts: Uint32, parseUint32, parseString, Index, SplitBytes, parseNameList, errors. -/
import Derived.Test.YtnlkgaobbobakaaBytes
import Derived.Test.YtnlkgaobbobakaaCut
import Derived.Test.YtnlkgaobbobakaaSpecRead
set_option linter.unusedVariables false
set_option linter.unusedSimpArgs false
namespace Go.Proofs.Ytnlkgaobbobakaa
open Go.RowKit

theorem first4 {xs : List UInt8} (h : 4 ≤ xs.length) : ∃ a b c d r, xs = a :: b :: c :: d :: r := by
  match xs, h with
  | a :: b :: c :: d :: r, _ => exact ⟨a, b, c, d, r, rfl⟩
/-- The number that four bytes ahead are. -/
def headN (xs : List UInt8) : Nat := be32l (xs.take 4)
theorem or_le32 (a b c d : UInt8) : bits .or .u32 (bits .or .u32 (bits .or .u32 (d.toNat : Int) ((c.toNat : Int) * 256)) ((b.toNat : Int) * 65536)) ((a.toNat : Int) * 16777216) = ((be32 a b c d : Nat) : Int) := by
  have ha := a.toNat_lt
  have hb := b.toNat_lt
  have hc := c.toNat_lt
  have hd := d.toNat_lt
  have e1 : ((a.toNat : Int) * 16777216) = ((a.toNat * 16777216 : Nat) : Int) := by omega
  have e2 : ((b.toNat : Int) * 65536) = ((b.toNat * 65536 : Nat) : Int) := by omega
  have e3 : ((c.toNat : Int) * 256) = ((c.toNat * 256 : Nat) : Int) := by omega
  have o1 : d.toNat ||| c.toNat * 256 = c.toNat * 256 + d.toNat := by rw [Nat.or_comm]; exact nat_or_add c.toNat d.toNat 8 (by omega)
  have o2 : (c.toNat * 256 + d.toNat) ||| b.toNat * 65536 = b.toNat * 65536 + (c.toNat * 256 + d.toNat) := by rw [Nat.or_comm]; exact nat_or_add b.toNat (c.toNat * 256 + d.toNat) 16 (by omega)
  have o3 : (b.toNat * 65536 + (c.toNat * 256 + d.toNat)) ||| a.toNat * 16777216 = a.toNat * 16777216 + (b.toNat * 65536 + (c.toNat * 256 + d.toNat)) := by rw [Nat.or_comm]; exact nat_or_add a.toNat _ 24 (by omega)
  rw [e1, e2, e3, u32_or_nat _ _ (by omega) (by omega), o1, u32_or_nat _ _ (by omega) (by omega), o2, u32_or_nat _ _ (by omega) (by omega), o3]
  unfold be32
  omega

set_option maxHeartbeats 400000 in
theorem beU32_any (ok : Nat → Prop) (A : Option Addr) (c : Nat) (xs : List UInt8) (w : World) (h4 : 4 ≤ xs.length) (hr : RR (lit byteV) ok w A xs) :
    Calls Try.prog 56 #[.agg #[], .slice A xs.length c] w fun e w' => e = .returned (.int .u32 (headN xs : Int)) ∧ Below w.heap.size w w' := by
  obtain ⟨x0, x1, x2, x3, r, hx⟩ := first4 h4
  obtain ⟨ad, rfl, _, hc⟩ := RB.at hr (by omega)
  have c0 : w.cell? ad = _ := hc 0 x0 (by rw [hx]; rfl)
  have c1 : w.cell? ⟨ad.block, ad.off + 1, none⟩ = _ := hc 1 x1 (by rw [hx]; rfl)
  have c2 : w.cell? ⟨ad.block, ad.off + 2, none⟩ = _ := hc 2 x2 (by rw [hx]; rfl)
  have c3 : w.cell? ⟨ad.block, ad.off + 3, none⟩ = _ := hc 3 x3 (by rw [hx]; rfl)
  have b0 := byte_le x0
  have b1 := byte_le x1
  have b2 := byte_le x2
  have b3 := byte_le x3
  have hlt : ad.block < w.heap.size := by have := blk_lt_of_cell c0; exact this
  have HX := Lib.hid hx
  have h4' : (4 : Int) ≤ (xs.length : Int) := by omega
  have e1 := or_le32 x0 x1 x2 x3
  have E1 := Lib.hid e1
  clear hr hc hx e1
  go_enter Try.func56, Try.ntmps56
  go_wp2_with fail
  go_quiet (fail)
  go_wp2
  go_ret
  have hn : headN xs = be32 x0 x1 x2 x3 := by unfold headN; rw [HX.out]; rfl
  rw [hn]
  refine ⟨congrArg (fun n => Ending.returned (.int .u32 n)) E1.out, ?_⟩
  have h1 : Below w.heap.size w (w.alloc (.cells #[] 181)) := (Below.refl _ _).alloc (Nat.le_refl _) _
  exact ⟨h1.os, h1.tape, h1.output, h1.size, h1.block⟩

theorem headN_lt (xs : List UInt8) : headN xs < 4294967296 := by
  unfold headN
  match h : xs.take 4 with
  | [] => exact (show (0 : Nat) < 4294967296 by omega)
  | [a] => exact (show (0 : Nat) < 4294967296 by omega)
  | [a, b] => exact (show (0 : Nat) < 4294967296 by omega)
  | [a, b, c] => exact (show (0 : Nat) < 4294967296 by omega)
  | [a, b, c, d] => exact be32_lt a b c d
  | a :: b :: c :: d :: e :: r => have := congrArg List.length h; simp at this; omega

set_option maxHeartbeats 400000 in
theorem parseU32_short (A : Option Addr) (c : Nat) (xs : List UInt8) (w : World) (h4 : xs.length < 4) :
    Calls Try.prog 45 #[.slice A xs.length c] w fun e w' => e = .returned (.tuple #[.int .u32 0, .slice none 0 0, .bool false]) ∧ w = w' := by
  go_enter Try.func45, Try.ntmps45
  go_wp2
  go_ret3
  exact ⟨rfl, rfl⟩
set_option maxHeartbeats 400000 in
theorem parseU32_ok (ok : Nat → Prop) (A : Option Addr) (c : Nat) (xs : List UInt8) (w : World) (h4 : 4 ≤ xs.length) (hc : xs.length ≤ c) (hm : c ≤ 9223372036854775807) (hr : RR (lit byteV) ok w A xs) :
    Calls Try.prog 45 #[.slice A xs.length c] w fun e w' => ∃ A' c', e = .returned (.tuple #[.int .u32 (headN xs : Int), .slice A' (xs.drop 4).length c', .bool true]) ∧ Byts ok w' (.slice A' (xs.drop 4).length c') (xs.drop 4) ∧ Below w.heap.size w w' := by
  obtain ⟨i0, hi0, _, hsz, _⟩ := info_parts info_u8
  obtain ⟨A1, ys, r0, e1, l1, q1⟩ := cut_from (P := Try.prog) 26 5 .i64 Try.underlying26 hi0 hsz A c xs 4 h4 hc
  have r1 : ∀ W : World, (Instr.slice 26 (.slice A xs.length c) (some (.int .i64 4)) none none).run Try.prog W = .ok (.slice A1 ys.length (c - 4)) W := r0
  clear r0
  have HR := Lib.hid hr
  have HB := fun W (hW : RR (lit byteV) ok W A xs) => beU32_any ok A c xs W h4 hW
  have HBB := Lib.hid HB
  have h4' : (4 : Int) ≤ (xs.length : Int) := by omega
  clear hi0 hsz hr HB
  go_enter Try.func45, Try.ntmps45
  go_wp2_with fail
  go_region_law ((go_simp; go_at_call 56; refine (HBB.out _ (RR.keep HR.out (lit_steady _) ((Keep.refl _ w).drewN _))).mono ?_; rintro e w2 ⟨rfl, hb2⟩; have HB2 := Lib.hid hb2; clear hb2))
  all_goals
    go_wp2
    go_ret3
    rw [← e1.out]
    have hb : Below w.heap.size w w2 := ⟨HB2.out.os, HB2.out.tape, HB2.out.output, HB2.out.size, HB2.out.block⟩
    exact ⟨A1, c - 4, rfl, ⟨A1, c - 4, rfl, l1, by omega, RR.keep (q1 _ _ _ HR.out) (lit_steady _) (Keep.of_below hb)⟩, hb⟩

/-! ### parseString -/
/-- What parseString reads, and what is behind it. -/
def psP (xs : List UInt8) : Option (List UInt8 × List UInt8) :=
  if xs.length < 4 then none
  else if (xs.drop 4).length < headN xs then none
  else some ((xs.drop 4).take (headN xs), (xs.drop 4).drop (headN xs))
set_option maxHeartbeats 400000 in
theorem parseStr_none (ok : Nat → Prop) (A : Option Addr) (c : Nat) (xs : List UInt8) (w : World) (hl : xs.length < 4294967296) (hc : xs.length ≤ c) (hm : c ≤ 9223372036854775807) (hr : RR (lit byteV) ok w A xs) (h : psP xs = none) :
    Calls Try.prog 46 #[.slice A xs.length c] w fun e w' => e = .returned (.tuple #[.slice none 0 0, .slice none 0 0, .bool false]) ∧ Below w.heap.size w w' := by
  by_cases h4 : xs.length < 4
  · clear h
    go_enter Try.func46, Try.ntmps46
    go_wp2
    go_ret3
    exact ⟨rfl, Below.refl _ _⟩
  · obtain ⟨i0, hi0, _, hsz, _⟩ := info_parts info_u8
    obtain ⟨A1, ys, r0, e1, l1, q1⟩ := cut_from (P := Try.prog) 26 5 .i64 Try.underlying26 hi0 hsz A c xs 4 (by omega) hc
    have r1 : ∀ W : World, (Instr.slice 26 (.slice A xs.length c) (some (.int .i64 4)) none none).run Try.prog W = .ok (.slice A1 ys.length (c - 4)) W := r0
    clear r0
    have hlt : ys.length < headN xs := by
      unfold psP at h
      rw [if_neg h4] at h
      rw [e1.out]
      split at h
      · assumption
      · cases h
    have hyl : ys.length < 4294967296 := by rw [e1.out, List.length_drop]; omega
    have HB := Lib.hid (beU32_any ok A c xs w (by omega) hr)
    obtain ⟨n, hn⟩ : ∃ n, n = headN xs := ⟨_, rfl⟩
    have hnl := headN_lt xs
    rw [← hn] at hlt hnl HB
    have h4' : ¬ (xs.length : Int) < 4 := by omega
    clear hi0 hsz hr h h4 hn
    go_enter Try.func46, Try.ntmps46
    go_wp2_with (go_at_call 56; refine HB.out.mono ?_; rintro e w2 ⟨rfl, hb2⟩; have HB2 := Lib.hid hb2; clear hb2)
    go_ret3
    exact ⟨rfl, HB2.out⟩
set_option maxHeartbeats 400000 in
theorem parseStr_some (ok : Nat → Prop) (A : Option Addr) (c : Nat) (xs s rest : List UInt8) (w : World) (hl : xs.length < 4294967296) (hc : xs.length ≤ c) (hm : c ≤ 9223372036854775807) (hr : RR (lit byteV) ok w A xs) (h : psP xs = some (s, rest)) :
    Calls Try.prog 46 #[.slice A xs.length c] w fun e w' => ∃ A1 c1 A2 c2, e = .returned (.tuple #[.slice A1 s.length c1, .slice A2 rest.length c2, .bool true]) ∧ Byts ok w' (.slice A1 s.length c1) s ∧ Byts ok w' (.slice A2 rest.length c2) rest ∧ Below w.heap.size w w' := by
  obtain ⟨i0, hi0, _, hsz, _⟩ := info_parts info_u8
  have h4 : 4 ≤ xs.length := by
    unfold psP at h
    split at h
    · cases h
    · omega
  obtain ⟨A1, ys, r0, e1, l1, q1⟩ := cut_from (P := Try.prog) 26 5 .i64 Try.underlying26 hi0 hsz A c xs 4 (by omega) hc
  have r1 : ∀ W : World, (Instr.slice 26 (.slice A xs.length c) (some (.int .i64 4)) none none).run Try.prog W = .ok (.slice A1 ys.length (c - 4)) W := r0
  clear r0
  have hps : headN xs ≤ ys.length ∧ s = ys.take (headN xs) ∧ rest = ys.drop (headN xs) := by
    unfold psP at h
    rw [if_neg (by omega), ← e1.out] at h
    split at h
    · cases h
    · injection h with h
      injection h with h1 h2
      exact ⟨by omega, h1.symm, h2.symm⟩
  obtain ⟨hle, hs, hrest⟩ := hps
  have hyl : ys.length < 4294967296 := by rw [e1.out, List.length_drop]; omega
  have HB := Lib.hid (beU32_any ok A c xs w (by omega) hr)
  obtain ⟨n, hn⟩ : ∃ n, n = headN xs := ⟨_, rfl⟩
  have hnl := headN_lt xs
  rw [← hn] at hle hnl HB hs hrest
  obtain ⟨A2, zs, r2, e2, l2, q2⟩ := cut_to (P := Try.prog) 26 5 .u32 Try.underlying26 hi0 hsz A1 (c - 4) ys n hle l1
  obtain ⟨A3, us, r3, e3, l3, q3⟩ := cut_from (P := Try.prog) 26 5 .u32 Try.underlying26 hi0 hsz A1 (c - 4) ys n hle l1
  obtain rfl : zs = s := by rw [hs]; exact e2.out
  obtain rfl : us = rest := by rw [hrest]; exact e3.out
  have HR := Lib.hid hr
  have h4' : ¬ (xs.length : Int) < 4 := by omega
  clear hi0 hsz hr h h4 hn hs hrest
  go_enter Try.func46, Try.ntmps46
  go_wp2_with (go_at_call 56; refine HB.out.mono ?_; rintro e w2 ⟨rfl, hb2⟩; have HB2 := Lib.hid hb2; clear hb2)
  go_ret3
  have h5 := RR.keep (q1 _ _ _ HR.out) (lit_steady _) (Keep.of_below HB2.out)
  exact ⟨A2, c - 4, A3, c - 4 - n, rfl, ⟨A2, c - 4, rfl, l2, by omega, q2 _ _ _ h5⟩, ⟨A3, c - 4 - n, rfl, l3, by omega, q3 _ _ _ h5⟩, HB2.out⟩

/-! ### Index -/
def idxV : Option Nat → Int
  | some n => n
  | none => -1
set_option maxHeartbeats 400000 in
theorem index_any (ok : Nat → Prop) (A B : Option Addr) (c d : Nat) (s sep : List UInt8) (w : World) (hs : s.length ≤ 2305843009213693952) (hp : sep.length ≤ 2305843009213693952) (hc : s.length ≤ c) (hd : sep.length ≤ d) (hr : RR (lit byteV) ok w A s) (hq : RR (lit byteV) ok w B sep) :
    Calls Try.prog 65 #[.slice A s.length c, .slice B sep.length d] w fun e w' => e = .returned (.int .i64 (idxV (idxP sep s))) ∧ ∃ n, w' = w.drewN n := by
  have HR := Lib.hid hr
  have HQ := Lib.hid hq
  clear hr hq
  go_enter Try.func65, Try.ntmps65
  go_wp2_with fail
  go_loopg [5] s.length (fun gk v5 wr => ∃ i : Nat, v5 = .int .i64 (i : Int) ∧ i ≤ s.length ∧ (∃ n, wr = w.drewN n) ∧ Hid (i + gk = s.length) ∧ Hid (idxP sep s = (idxP sep (s.drop i)).map (· + i)))
  case atStart => exact ⟨0, rfl, by omega, ⟨0, rfl⟩, by simp [Hid], by simp [Hid]⟩
  case round =>
    obtain ⟨i, rfl, hi, ⟨n, rfl⟩, hgk, hidx⟩ := hrel
    by_cases hfit : i + sep.length ≤ s.length
    · obtain ⟨i0, hi0, _, hsz, _⟩ := info_parts info_u8
      obtain ⟨A1, ys, r1, e1, l1, q1⟩ := cut_mid (P := Try.prog) 26 5 .i64 .i64 Try.underlying26 hi0 hsz A c s i (i + sep.length) (by omega) hfit hc
      have ec : ((i + sep.length : Nat) : Int) = (i : Int) + (sep.length : Int) := by omega
      rw [ec] at r1
      have hcv1 : ∀ m, (convert 26 9 (.slice A1 ys.length (c - i))).run Try.prog (w.drewN m) = .ok (.string ⟨ys.toArray⟩) (w.drewN m) := fun m => run_to_string Try.underlying26 Try.underlying5 Try.underlying9 _ (q1 _ ok (w.drewN m) (RR.keep HR.out (lit_steady _) ((Keep.refl _ w).drewN m)))
      have hcv2 : ∀ m, (convert 26 9 (.slice B sep.length d)).run Try.prog (w.drewN m) = .ok (.string ⟨sep.toArray⟩) (w.drewN m) := fun m => run_to_string Try.underlying26 Try.underlying5 Try.underlying9 _ (RR.keep HQ.out (lit_steady _) ((Keep.refl _ w).drewN m))
      clear hi0 hsz ec q1
      have hfit' : (i : Int) + (sep.length : Int) ≤ (s.length : Int) := by omega
      go_wp2_with fail
      go_quiet (fail)
      go_wp2_with fail
      · rename_i ht
        have hhit := idxP_hit (e1.out.symm.trans (beq_iff_eq.1 ht)) hfit
        refine bodyPost_ret (v := .int .i64 (i : Int)) (by simp [results, Try.results65, go_sem]) rfl ?_
        refine ⟨?_, n + nq, by rw [World.drewN_drewN]⟩
        rw [hidx, hhit]
        simp [idxV]
      · rename_i ht
        obtain ⟨hlt, hmiss⟩ := idxP_miss (fun q => beq_eq_false_iff_ne.1 ht (e1.out.trans q)) hfit
        go_roundg (gk - 1)
        · refine ⟨i + 1, by simp, by omega, ⟨n + nq, rfl⟩, ?_, ?_⟩
          · simp only [Hid] at hgk ⊢; omega
          · simp only [Hid]
            rw [hidx, hmiss]
            cases idxP sep (s.drop (i + 1)) <;> simp <;> omega
        · have := hgk.out; omega
    · have hno := idxP_none_short sep (s.drop i) (by rw [List.length_drop]; omega)
      have hb : (i : Int) + (sep.length : Int) ≤ 9223372036854775807 := by omega
      have hfit' : ¬ (i : Int) + (sep.length : Int) ≤ (s.length : Int) := by omega
      go_wp2_with fail
      refine bodyPost_ret (v := .int .i64 (-1)) (by simp [results, Try.results65, go_sem]) rfl ?_
      refine ⟨?_, n, rfl⟩
      rw [hidx, hno]
      rfl

/-! ### SplitBytes -/
section
variable {P : Program} {α : Type}
theorem cut_to3 (t e : TypeId) (kh : IntKind) {i : TypeInfo} (ht : P.underlying t = some (.slice e)) (hi : P.info? e = some i) (hsz : i.size = 1) (A : Option Addr) (c : Nat) (xs : List α) (m : Nat) (hm : m ≤ xs.length) (hc : xs.length ≤ c) :
    ∃ (A' : Option Addr) (ys : List α), (∀ W : World, (Instr.slice t (.slice A xs.length c) none (some (.int kh (m : Int))) (some (.int kh (m : Int)))).run P W = .ok (.slice A' ys.length m) W) ∧
      Hid (ys = xs.take m) ∧ ys.length ≤ m ∧ ∀ (R : Say α) (ok : Nat → Prop) (w : World), RR R ok w A xs → RR R ok w A' ys := by
  refine ⟨A, xs.take m, fun W => ?_, rfl, by rw [List.length_take]; omega, fun R ok w h => h.take m⟩
  have hel : P.elem t = e := by simp [Program.elem, ht]
  have hu : P.underlying t = some (.slice (P.elem t)) := by rw [hel]; exact ht
  rw [run_slice_hm W t A xs.length c hu kh kh (m : Int) (m : Int) (Int.natCast_nonneg _) (by omega) (by omega), hel]
  have h1 : min m xs.length = m := by omega
  simp only [sizeOf, typeInfo, List.length_take, h1]
  cases A <;> simp [hi, hsz, sliced, Result.andThen, Addr.add]
end
theorem info_bytes : (Try.prog.info? 26).map (fun i => (i.zero, i.size, i.bytes)) = some (some (.slice none 0 0), 1, 24) := by kernel_rfl
theorem comma_new (w : World) : Calls Try.prog 58 #[] w fun e w' => e = .returned (.slice (some ⟨w.heap.size, 0, none⟩) 1 1) ∧ w' = w.alloc (.cells #[.int .u8 44] 5) := by
  go_enter Try.func58, Try.ntmps58
  go_wp2
  go_ret
  exact ⟨rfl, rfl⟩
theorem comma_RR {w : World} {b : Nat} (hb : Blk w b 5 #[.int .u8 44]) : RR (lit byteV) all_ w (some ⟨b, 0, none⟩) [44] := by
  intro i x hx
  match i, hx with
  | 0, hx =>
    have : 44 = x := by simpa using hx
    subst this
    exact ⟨_, _, rfl, trivial, hb.cell 0, rfl⟩
theorem RR.lt_ {α : Type} {enc : α → Value} {ok : Nat → Prop} {w : World} {A : Option Addr} {xs : List α} (h : RR (lit enc) ok w A xs) : RR (lit enc) (· < w.heap.size) w A xs := fun i x hx => by
  obtain ⟨ad, v, h1, _, h3, h4⟩ := h i x hx
  have := blk_lt_of_cell h3
  rw [add_block] at this
  exact ⟨ad, v, h1, this, h3, h4⟩
def SplitEnd (w : World) (s : List UInt8) (e : Ending) (w' : World) : Prop := ∃ A c, e = .returned (.slice A (splitC [] s).length c) ∧ RR Byts all_ w' A (splitC [] s) ∧ Below w.heap.size w w'
set_option maxHeartbeats 400000 in
theorem split_any (A B : Option Addr) (c : Nat) (s : List UInt8) (w : World) (hs : s.length ≤ 4294967296) (hc : s.length ≤ c) (hm : c ≤ 9223372036854775807) (hr : RR (lit byteV) all_ w A s) (hq : RR (lit byteV) all_ w B [44]) :
    Calls Try.prog 57 #[.slice A s.length c, .slice B 1 1] w (SplitEnd w s) := by
  have HR := Lib.hid hr.lt_
  have HQ := Lib.hid hq
  clear hr hq
  go_enter Try.func57, Try.ntmps57
  go_wp2_with fail
  go_loopg [0, 4] (s.length + 1) (fun gk v0 v4 wr => ∃ (A1 A4 : Option Addr) (c1 c4 : Nat) (s1 : List UInt8) (L : List Value) (Ls : List (List UInt8)), v0 = .slice A1 s1.length c1 ∧ v4 = .slice A4 L.length c4 ∧ s1.length ≤ c1 ∧ c1 ≤ 9223372036854775807 ∧ wr.ownsRow w.heap.size 26 1 (.slice A4 L.length c4) L.length L ∧
    Below w.heap.size w wr ∧ Hid (gk = s1.length + 1) ∧ L.length + s1.length ≤ 4294967296 ∧ Hid (splitC [] s = Ls ++ splitC [] s1) ∧ Hid (Each Byts (· < w.heap.size) wr L Ls) ∧ Hid (RR (lit byteV) (· < w.heap.size) wr A1 s1))
  case atStart => exact ⟨A, none, c, 0, s, [], [], rfl, rfl, hc, hm, World.ownsRow_nil _ _ _ _, Below.refl _ _, rfl, by simpa using hs, rfl, Lib.hid (Each.nil _ _ _), Lib.hid HR.out⟩
  case round =>
    obtain ⟨A1, A4, c1, c4, s1, L, Ls, rfl, rfl, hc1, hm1, hown, hb, hgk, hLs, hspl, HE, HR1⟩ := hrel
    have HO := Lib.hid (fun m => (show (wr.drewN m).ownsRow w.heap.size 26 1 (.slice A4 L.length c4) L.length L from hown))
    have HB := Lib.hid (fun m => (show Below w.heap.size w (wr.drewN m) from ⟨hb.os, hb.tape, hb.output, hb.size, hb.block⟩))
    have hidx := index_any (· < w.heap.size) A1 B c1 1 s1 [44] wr (by omega) (by simp) hc1 (by simp) HR1.out (RR.keep HQ.out.lt_ (lit_steady _) (Keep.of_below hb))
    clear hown hb
    cases hix : idxP [44] s1 with
    | none =>
      rw [hix] at hidx
      have hi1 : Calls Try.prog 65 #[.slice A1 s1.length c1, .slice B 1 1] wr fun e w' => e = .returned (.int .i64 (-1)) ∧ ∃ n, w' = wr.drewN n := hidx
      have HI := Lib.hid hi1
      have HX := Lib.hid hix
      clear hi1 hidx hix
      go_wp2_with (first
        | (go_at_call 65; refine HI.out.mono ?_; rintro e w1 ⟨rfl, n, rfl⟩)
        | (at_builtin; refine wpList_push rfl _ _ _ rfl w.heap.size 26 (.slice none 0 0) 24 Try.underlying78 info_bytes rfl (.slice A4 L.length c4) L rfl ((HO.out _).alloc _) _ (.slice A1 s1.length c1) rfl (Blk.new _ _ _) rfl (by omega) (by omega) (Nat.le_trans (HB.out 0).size (by simp)) ?_; intro A3 c3 w3 hown3 hg3 hat3))
      go_ret
      have hk : Keep (· < w.heap.size) wr w3 := (((Keep.refl (· < w.heap.size) wr).drewN n).alloc _).grown hg3 (fun g e _ ho => by have := ((HO.out 0).lt g e).1; omega)
      have hE2 : Each Byts (· < w.heap.size) w3 (L ++ [.slice A1 s1.length c1]) (splitC [] s) := by
        rw [hspl.out, splitC_none [] HX.out]
        exact (HE.out.keep bytes_steady hk).snoc ⟨A1, c1, rfl, hc1, hm1, RR.keep HR1.out (lit_steady _) hk⟩
      have hlen : (splitC [] s).length = L.length + 1 := by rw [← hE2.1]; simp
      rw [List.length_append, List.length_singleton] at hown3
      refine ⟨A3, c3, by rw [hlen]; rfl, own_each hown3 hE2 bytes_steady (fun _ _ => trivial) (fun _ _ => trivial), ?_⟩
      exact (((HB.out n).alloc (HB.out 0).size _).grown hg3 (Nat.le_trans (HB.out 0).size (by simp)) (fun g e => ((HO.out 0).lt g e).1))
    | some i =>
      obtain ⟨hsp, hile⟩ := splitC_some [] hix
      rw [hix] at hidx
      have hi1 : Calls Try.prog 65 #[.slice A1 s1.length c1, .slice B 1 1] wr fun e w' => e = .returned (.int .i64 (i : Int)) ∧ ∃ n, w' = wr.drewN n := hidx
      have HI := Lib.hid hi1
      have HX := Lib.hid hsp
      clear hi1 hidx hix hsp
      obtain ⟨i0, hi0, _, hsz, _⟩ := info_parts info_u8
      obtain ⟨A5, s2, r0, e2, l2, q2⟩ := cut_from (P := Try.prog) 26 5 .i64 Try.underlying26 hi0 hsz A1 c1 s1 (i + 1) (by omega) hc1
      have ec : ((i + 1 : Nat) : Int) = (i : Int) + 1 := by omega
      rw [ec] at r0
      have hi9 : (i : Int) ≤ 4294967296 := by omega
      have hi8 : i ≤ s1.length := by omega
      have hile' := Lib.hid hile
      clear hi0 hsz ec hile
      go_wp2_with (first
        | (go_at_call 65; refine HI.out.mono ?_; rintro e w1 ⟨rfl, n, rfl⟩)
        | (at_builtin; refine wpList_push rfl _ _ _ rfl w.heap.size 26 (.slice none 0 0) 24 Try.underlying78 info_bytes rfl (.slice A4 L.length c4) L rfl ((HO.out _).alloc _) _ (.slice A1 i i) rfl (Blk.new _ _ _) rfl (by omega) (by omega) (Nat.le_trans (HB.out 0).size (by simp)) ?_; intro A3 c3 w3 hown3 hg3 hat3))
      go_roundg (s2.length + 1)
      case measure =>
        have h1 := hgk.out
        have h2 := congrArg List.length e2.out
        have h3 := hile'.out
        rw [List.length_drop] at h2
        omega
      case rel =>
        have hk : Keep (· < w.heap.size) wr w3 := (((Keep.refl (· < w.heap.size) wr).drewN n).alloc _).grown hg3 (fun g e _ ho => by have := ((HO.out 0).lt g e).1; omega)
        have h2 := congrArg List.length e2.out
        have h3 := hile'.out
        rw [List.length_drop] at h2
        have hlt : (s1.take i).length = i := by rw [List.length_take]; omega
        refine ⟨A5, A3, c1 - (i + 1), c3, s2, L ++ [.slice A1 i i], Ls ++ [s1.take i], rfl, by simp, l2, by omega, ?_, ?_, rfl, ?_, ?_, ?_, ?_⟩
        · simpa using hown3
        · exact ((HB.out n).alloc (HB.out 0).size _).grown hg3 (Nat.le_trans (HB.out 0).size (by simp)) (fun g e => ((HO.out 0).lt g e).1)
        · simp; omega
        · show _ = _
          rw [hspl.out, HX.out, e2.out]
          simp
        · refine (HE.out.keep bytes_steady hk).snoc ⟨A1, i, by rw [hlt], by rw [hlt]; exact Nat.le_refl _, by omega, ?_⟩
          exact (RR.keep HR1.out (lit_steady _) hk).take i
        · exact q2 _ _ _ (RR.keep HR1.out (lit_steady _) hk)

/-! ### parseNameList -/
theorem byts_parts {ok : Nat → Prop} {w : World} {A : Option Addr} {c : Nat} {xs : List UInt8} (h : Byts ok w (.slice A xs.length c) xs) : xs.length ≤ c ∧ c ≤ 9223372036854775807 ∧ RR (lit byteV) ok w A xs := by
  obtain ⟨A', c', e, h1, h2, h3⟩ := h
  injection e with e1 e2 e3
  subst e1 e3
  exact ⟨h1, h2, h3⟩
set_option maxHeartbeats 400000 in
theorem parseNames_none (A : Option Addr) (c : Nat) (xs : List UInt8) (w : World) (hl : xs.length < 4294967296) (hc : xs.length ≤ c) (hm : c ≤ 9223372036854775807) (hr : RR (lit byteV) all_ w A xs) (h : psP xs = none) :
    Calls Try.prog 47 #[.slice A xs.length c] w fun e w' => e = .returned (.tuple #[.slice none 0 0, .slice none 0 0, .bool false]) ∧ Below w.heap.size w w' := by
  have HP := Lib.hid (parseStr_none all_ A c xs w hl hc hm hr h)
  clear hr h
  go_enter Try.func47, Try.ntmps47
  go_wp2_with (go_at_call 46; refine HP.out.mono ?_; rintro e w1 ⟨rfl, hb⟩)
  go_ret3
  exact ⟨rfl, hb⟩
theorem run_make_strs (n : Nat) (hn : n * 16 ≤ 140737488355328) (W : World) :
    (Instr.makeSlice 23 (.int .i64 (n : Int)) (.int .i64 (n : Int))).run Try.prog W = .ok (.slice (some ⟨W.heap.size, 0, none⟩) n n) (W.alloc (.cells (madeCells #[.string .empty] n) 9)) := by
  obtain ⟨i, hi', hz, hs, hb⟩ := info_parts info_str
  have h := run_make W 23 9 i (.string .empty) Try.underlying23 hi' hz .i64 .i64 (n : Int) (n : Int) (by omega) (by omega) (by rw [hb]; omega) (by omega)
  simp only [Int.toNat_natCast, hs, Nat.mul_one, Value.cells] at h
  exact h
set_option maxHeartbeats 400000 in
theorem parseNames_some (ok : Nat → Prop) (A : Option Addr) (c : Nat) (xs s rest : List UInt8) (w : World) (hok : ∀ b, w.heap.size ≤ b → ok b) (hl : xs.length < 4294967296) (hc : xs.length ≤ c) (hm : c ≤ 9223372036854775807) (hr : RR (lit byteV) ok w A xs) (h : psP xs = some (s, rest)) :
    Calls Try.prog 47 #[.slice A xs.length c] w fun e w' => ∃ A1 c1 A2 c2, e = .returned (.tuple #[.slice A1 (namesP s).length c1, .slice A2 rest.length c2, .bool true]) ∧ Strs ok w' (.slice A1 (namesP s).length c1) (namesP s) ∧ Byts ok w' (.slice A2 rest.length c2) rest ∧ Below w.heap.size w w' := by
  have HP := Lib.hid (parseStr_some ok A c xs s rest w hl hc hm hr h)
  by_cases hs : s = []
  · subst hs
    clear hr h
    go_enter Try.func47, Try.ntmps47
    go_wp2_with (go_at_call 46; refine HP.out.mono ?_; rintro e w1 ⟨A1, c1, A2, c2, rfl, hs1, hr1, hb⟩; have HS := Lib.hid hs1; have HR := Lib.hid hr1; have HB := Lib.hid hb; clear hs1 hr1 hb)
    go_ret3
    refine ⟨some ⟨w1.heap.size, 0, none⟩, 0, A2, c2, rfl, ⟨_, 0, rfl, Nat.le_refl _, by omega, RR.nil _ _ _ _⟩, bytes_steady.keep HR.out (Keep.of_below ((Below.refl _ _).alloc (Nat.le_refl _) _)), HB.out.alloc HB.out.size _⟩
  · have hsl : s.length ≤ xs.length := by
      unfold psP at h
      split at h
      · cases h
      · split at h
        · cases h
        · injection h with h
          injection h with h1 h2
          rw [← h1, List.length_take, List.length_drop]; omega
    have hn0 : (s.length : Int) ≠ 0 := by have := List.length_pos_iff.2 hs; omega
    have hnm : namesP s = splitC [] s := by unfold namesP; rw [if_neg hs]
    have hlen : (splitC [] s).length ≤ s.length + 1 := splitC_length [] s
    rw [hnm]
    obtain ⟨ps, hps⟩ : ∃ ps, ps = splitC [] s := ⟨_, rfl⟩
    rw [← hps] at hlen ⊢
    clear hr h hnm
    go_enter Try.func47, Try.ntmps47
    have hpl : ps.length ≤ 4294967296 := by omega
    have HPS := Lib.hid hps
    have hmk := run_make_strs ps.length (by omega)
    clear hlen hs hps
    go_wp2_with (first
      | (go_at_call 46; refine HP.out.mono ?_; rintro e w1 ⟨A1, c1, A2, c2, rfl, hs1, hr1, hb⟩; have HS := Lib.hid hs1; have HR := Lib.hid hr1; have HB := Lib.hid hb; clear hs1 hr1 hb)
      | (go_at_call 58; refine (comma_new _).mono ?_; rintro e w2 ⟨rfl, rfl⟩)
      | (go_at_call 57; refine (split_any A1 _ c1 s _ (by omega) (byts_parts HS.out).1 (byts_parts HS.out).2.1 (RR.keep (RR.mono (byts_parts HS.out).2.2 (lit_steady _) (fun _ _ _ => trivial)) (lit_steady _) (Keep.of_below ((Below.refl _ _).alloc (Nat.le_refl _) _))) (comma_RR (Blk.new _ _ _))).mono ?_; unfold SplitEnd; rw [← HPS.out]; rintro e w2 ⟨A3, c3, rfl, hr3, hb3⟩; have HR3 := Lib.hid hr3; have HB3 := Lib.hid ((HB.out.alloc HB.out.size _).trans (hb3.mono (HB.out.alloc HB.out.size _).size)); have HR4 := Lib.hid (bytes_steady.keep HR.out (Keep.of_below (((Below.refl _ w1).alloc (Nat.le_refl _) (.cells #[.int .u8 44] 5)).trans (hb3.mono (by simp))))); clear hr3 hb3))
    go_loopg [29] (ps.length) (fun gk v29 wr => ∃ (k : Nat) (cs : Array Value), v29 = .int .i64 (k : Int) ∧ k ≤ ps.length ∧ Blk wr w2.heap.size 9 cs ∧ Hid (k + gk = ps.length) ∧ Hid (cs.size = ps.length) ∧ Hid (∀ (j : Nat) (x : List UInt8), j < k → ps[j]? = some x → cs[j]? = some (strV x)) ∧ Hid (Below w2.heap.size w2 wr))
    case atStart => exact ⟨0, _, rfl, by omega, Blk.new _ _ _, by simp [Hid], size_madeCells _ _, fun j x hj => by omega, (Below.refl _ _).alloc (Nat.le_refl _) _⟩
    case round =>
      obtain ⟨k, cs, rfl, hk, hblk, hgk, hcs, hdone, HBr⟩ := hrel
      have hfr := hblk.frozen k
      by_cases hlt : k < ps.length
      · obtain ⟨x, hx⟩ : ∃ x, ps[k]? = some x := ⟨_, List.getElem?_eq_getElem hlt⟩
        obtain ⟨ad, v, rfl, _, hcell, ⟨A5, c5, rfl, h52, h53, h54⟩⟩ := RR.keep HR3.out bytes_steady (Keep.of_below HBr.out) k x hx
        have hcv : (convert 26 9 (.slice A5 x.length c5)).run Try.prog wr = .ok (.string ⟨x.toArray⟩) wr := run_to_string Try.underlying26 Try.underlying5 Try.underlying9 _ h54
        obtain ⟨old, hold⟩ : ∃ old, wr.cell? ⟨w2.heap.size, k, none⟩ = some old := by
          rw [hblk.cell k]
          exact ⟨_, Array.getElem?_eq_getElem (by rw [hcs.out]; exact hlt)⟩
        have HX := Lib.hid hx
        have HBk := Lib.hid hblk
        clear h54 hx hblk
        go_wp2_with fail
        go_roundg (gk - 1)
        case measure => have := hgk.out; omega
        case rel =>
          have hg := hgk.out
          refine ⟨k + 1, cs.setIfInBounds k (strV x), by simp, by omega, HBk.out.set_ k _, show _ = _ by omega, by show _ = _; rw [Array.size_setIfInBounds]; exact hcs.out, fun j y hj hy => ?_, HBr.out.setCell (Nat.le_refl _) _⟩
          by_cases hjk : j = k
          · subst hjk
            have : x = y := Option.some.inj (HX.out.symm.trans hy)
            subst this
            exact Array.getElem?_setIfInBounds_self_of_lt (by rw [hcs.out]; exact hlt)
          · rw [Array.getElem?_setIfInBounds_ne (Ne.symm hjk)]
            exact hdone.out j y (by omega) hy
      · have hke : k = ps.length := by omega
        subst hke
        go_wp2
        go_ret3
        refine ⟨some ⟨w2.heap.size, 0, none⟩, ps.length, A2, c2, rfl, ⟨_, ps.length, rfl, Nat.le_refl _, by omega, fun j y hy => ?_⟩, bytes_steady.keep HR4.out (Keep.of_below HBr.out), HB3.out.trans (HBr.out.mono HB3.out.size)⟩
        refine ⟨_, strV y, rfl, hok _ HB3.out.size, ?_, rfl⟩
        have hadd : (⟨w2.heap.size, 0, none⟩ : Addr).add j = ⟨w2.heap.size, j, none⟩ := by unfold Addr.add; split <;> simp_all
        rw [hadd, hblk.cell j]
        exact hdone.out j y (List.getElem?_eq_some_iff.1 hy).1 hy

end Go.Proofs.Ytnlkgaobbobakaa
