/- bytes.IndexByte, Equal, HasSuffix, TrimSuffix; ssh.dropCR. -/
import Derived.Test.YtoeepfmmceilaaaGreatDoorLnBytes
import Derived.Lib.BytesEntry
import Derived.Laws.Externs
import Derived.Lib.SlBytesConst
set_option linter.unusedVariables false
set_option linter.unusedSimpArgs false
namespace Go.Proofs.YtoeepfmmceilaaaGreatDoor
open Go.RowKit

theorem bytesOf_nums (xs : List UInt8) : Lib.bytesOf (xs.map fun x => (x.toNat : Int)) = xs := by
  unfold Lib.bytesOf
  rw [List.map_map]
  conv => rhs; rw [← List.map_id xs]
  apply List.map_congr_left
  intro x _
  apply UInt8.toNat_inj.1
  simp
set_option maxHeartbeats 400000 in
theorem indexByte_walk (ok : Nat → Prop) (A : Option Addr) (c : Nat) (xs : List UInt8) (z : UInt8) (w : World) (hn : 0 < xs.length) (hr : RR (lit byteV) ok w A xs) :
    Calls Tryz.prog 58 #[.slice A xs.length c, .int .u8 (z.toNat : Int)] w fun e w' => e = .returned (.int .i64 (Lib.indexByte xs z)) ∧ w' = w := by
  obtain ⟨ad, rfl, _, hc, hc2⟩ := RB.spots hr hn
  have hsp : ad = ⟨ad.block, ad.off, none⟩ := by
    have h0 := spot_none (hc 0 xs[0] (List.getElem?_eq_getElem hn))
    unfold Addr.add at h0
    rw [if_pos rfl] at h0
    cases ad
    simp at h0
    subst h0
    rfl
  have hx := Lib.run_indexByteSlice (P := Tryz.prog) (w := w) ad.block ad.off xs.length c (xs.map fun x => (x.toNat : Int)) (by rw [List.length_map]) (fun i hi => by
    obtain ⟨x, hx⟩ : ∃ x, xs[i]? = some x := ⟨_, List.getElem?_eq_getElem hi⟩
    rw [hc2 i x hx, List.getD_eq_getElem?_getD, List.getElem?_map, hx]
    rfl) (z.toNat : Int)
  rw [bytesOf_nums, ← hsp] at hx
  have hz : ((z.toNat : Int)).toNat.toUInt8 = z := by simp
  rw [hz] at hx
  have hcall : (callFunc 86 #[.slice (some ad) xs.length c, .int .u8 (z.toNat : Int)]).run Tryz.prog w = .ok (.value (.int .i64 (Lib.indexByte xs z))) w := by
    rw [run_callFunc_extern Tryz.func86 (by kernel_rfl) (by kernel_rfl) (by kernel_rfl) (e := Extern.BytealgIndexByte.indexByte) (by kernel_rfl), hx]
    rfl
  clear hx hc hc2 hr hsp hz
  go_enter Tryz.func58, Tryz.ntmps58
  go_wp2
  go_ret
  exact ⟨rfl, rfl⟩

theorem equal_any (ok ok' : Nat → Prop) (A B : Option Addr) (c d : Nat) (xs ys : List UInt8) (w : World) (hx : RR (lit byteV) ok w A xs) (hy : RR (lit byteV) ok' w B ys) :
    Calls Tryz.prog 142 #[.slice A xs.length c, .slice B ys.length d] w fun e w' => e = .returned (.bool (xs == ys)) ∧ w' = w := by
  have cx := run_to_string (P := Tryz.prog) Tryz.underlying28 Tryz.underlying5 Tryz.underlying9 c hx
  have cy := run_to_string (P := Tryz.prog) Tryz.underlying28 Tryz.underlying5 Tryz.underlying9 d hy
  clear hx hy
  by_cases he : xs = ys
  · subst he
    go_enter Tryz.func142, Tryz.ntmps142
    go_wp2_with fail
    go_ret
    exact ⟨by simp, rfl⟩
  · have hb : (xs == ys) = false := by rw [beq_eq_false_iff_ne]; exact he
    have HNE := Lib.hid he
    clear he
    go_enter Tryz.func142, Tryz.ntmps142
    go_wp2_with fail
    go_ret
    exact ⟨by simp [hb], rfl⟩

/-- The bytes without a '\\r' at their end. -/
def crP (xs : List UInt8) : List UInt8 := if xs.drop (xs.length - 1) = [13] then xs.take (xs.length - 1) else xs
theorem crP_len (xs : List UInt8) : (crP xs).length ≤ xs.length := by
  unfold crP
  split
  · rw [List.length_take]; omega
  · exact Nat.le_refl _
set_option maxHeartbeats 400000 in
theorem hasSuffix_cr (ok ok' : Nat → Prop) (A B : Option Addr) (c d : Nat) (xs : List UInt8) (w : World) (hl : xs.length ≤ 1000000) (hc : xs.length ≤ c) (hx : RR (lit byteV) ok w A xs) (hy : RR (lit byteV) ok' w B [13]) :
    Calls Tryz.prog 117 #[.slice A xs.length c, .slice B 1 d] w fun e w' => e = .returned (.bool (decide (xs.drop (xs.length - 1) = [13]))) ∧ w' = w := by
  by_cases h : 1 ≤ xs.length
  · obtain ⟨i0, hi0, _, hsz, _⟩ := info_parts info_u8
    obtain ⟨m, hm⟩ : ∃ m, m = xs.length - 1 := ⟨_, rfl⟩
    obtain ⟨A5, zs, hcut, hzs, hzl, hcr⟩ := cut_from (P := Tryz.prog) 28 5 .i64 Tryz.underlying28 hi0 hsz A c xs m (by omega) hc
    have HZ := Lib.hid (equal_any ok ok' A5 B (c - m) d zs [13] w (hcr _ _ _ hx) hy)
    have hd : ((1 : Int) ≤ (xs.length : Int)) = True := eq_true (by omega)
    have hs : (xs.length : Int) - 1 = (m : Int) := by omega
    have HP := Lib.hid (show (zs == [13]) = decide (xs.drop (xs.length - 1) = [13]) by rw [hzs.out, ← hm]; by_cases h : xs.drop m = [13] <;> simp [h])
    clear hx hy hcr hzs h hzl hm
    go_enter Tryz.func117, Tryz.ntmps117
    go_wp2_with (go_at_call 142; refine HZ.out.mono ?_; rintro e w1 ⟨rfl, hw⟩; (have hw := hw.symm); subst hw)
    go_ret
    exact ⟨by rw [HP.out]; rfl, rfl⟩
  · have hd : ((1 : Int) ≤ (xs.length : Int)) = False := eq_false (by omega)
    obtain rfl : xs = [] := List.eq_nil_of_length_eq_zero (by omega)
    clear hx hy h hd
    go_enter Tryz.func117, Tryz.ntmps117
    go_wp2_with fail
    go_ret
    exact ⟨rfl, rfl⟩
set_option maxHeartbeats 400000 in
theorem trimSuffix_cr (ok ok' : Nat → Prop) (A B : Option Addr) (c d : Nat) (xs : List UInt8) (w : World) (hl : xs.length ≤ 1000000) (hc : xs.length ≤ c) (hx : RR (lit byteV) ok w A xs) (hy : RR (lit byteV) ok' w B [13]) :
    Calls Tryz.prog 87 #[.slice A xs.length c, .slice B 1 d] w fun e w' => w' = w ∧ ∃ A2, e = .returned (.slice A2 (crP xs).length c) ∧ RR (lit byteV) ok w A2 (crP xs) := by
  have HH := Lib.hid (hasSuffix_cr ok ok' A B c d xs w hl hc hx hy)
  by_cases h : xs.drop (xs.length - 1) = [13]
  · have h1 : 1 ≤ xs.length := by
      match xs, h with
      | [], h => cases h
      | a :: r, _ => simp
    obtain ⟨i0, hi0, _, hsz, _⟩ := info_parts info_u8
    obtain ⟨m, hm⟩ : ∃ m, m = xs.length - 1 := ⟨_, rfl⟩
    obtain ⟨A5, zs, hcut, hzs, hzl, hcr⟩ := cut_to (P := Tryz.prog) 28 5 .i64 Tryz.underlying28 hi0 hsz A c xs m (by omega) hc
    have HX := Lib.hid (hcr _ _ _ hx)
    have he := Lib.hid (show crP xs = zs by unfold crP; rw [if_pos h, ← hm, ← hzs.out])
    have hs : (xs.length : Int) - 1 = (m : Int) := by omega
    rw [decide_eq_true h] at HH
    rw [he.out]
    clear hx hy hcr hzs h h1 hzl hm
    go_enter Tryz.func87, Tryz.ntmps87
    go_wp2_with (go_at_call 117; refine HH.out.mono ?_; rintro e w1 ⟨rfl, hw⟩; (have hw := hw.symm); subst hw)
    go_ret
    exact ⟨rfl, A5, rfl, HX.out⟩
  · have HX := Lib.hid hx
    have he := Lib.hid (show crP xs = xs by unfold crP; rw [if_neg h])
    rw [decide_eq_false h] at HH
    rw [he.out]
    clear hx hy h
    go_enter Tryz.func87, Tryz.ntmps87
    go_wp2_with (go_at_call 117; refine HH.out.mono ?_; rintro e w1 ⟨rfl, hw⟩; (have hw := hw.symm); subst hw)
    go_ret
    exact ⟨rfl, A, rfl, HX.out⟩
theorem cr_RR (w : World) : RR (lit byteV) all_ (w.alloc (.cells #[.int .u8 13] 5 (1, 2))) (some ⟨w.heap.size, 0, none⟩) [13] := fun i x hx => by
  refine ⟨_, byteV x, rfl, trivial, ?_, rfl⟩
  have h0 : (⟨w.heap.size, 0, none⟩ : Addr).add i = ⟨w.heap.size, i, none⟩ := by unfold Addr.add; split <;> simp_all
  rw [h0, cell_of_row _ _ _ _ _ _ (heap_alloc_new w _)]
  match i, hx with
  | 0, hx => injection hx with hx; subst hx; rfl
  | n + 1, hx => simp at hx
set_option maxRecDepth 100000 in
set_option maxHeartbeats 400000 in
theorem dropCR_walk (ok : Nat → Prop) (A : Option Addr) (c : Nat) (xs : List UInt8) (w : World) (hl : xs.length ≤ 1000000) (hc : xs.length ≤ c) (hx : RR (lit byteV) ok w A xs) :
    Calls Tryz.prog 59 #[.slice A xs.length c] w fun e w' => ∃ A2, e = .returned (.slice A2 (crP xs).length c) ∧ RR (lit byteV) ok w' A2 (crP xs) ∧ Below w.heap.size w w' := by
  have hb1 : Below w.heap.size w (w.alloc (.cells #[.int .u8 13] 5 (1, 2))) := (Below.refl _ _).alloc (Nat.le_refl _) _
  have HT := Lib.hid (trimSuffix_cr ok all_ A (some ⟨w.heap.size, 0, none⟩) c 1 xs (w.alloc (.cells #[.int .u8 13] 5 (1, 2))) hl hc (hx.keep (lit_steady _) (Keep.of_below hb1)) (cr_RR w))
  have kc := fun (w : World) (C : Array Value) (n c : Nat) => Lib.run_convert_bytes_const (P := Tryz.prog) w 28 5 C n c Tryz.underlying28 Tryz.underlying5
  have HB := Lib.hid hb1
  clear hx hb1
  go_enter Tryz.func59, Tryz.ntmps59
  go_wp2_with (go_at_call 87; refine HT.out.mono ?_; rintro e w1 ⟨hw, A2, rfl, h2⟩; (have hw := hw.symm); subst hw)
  go_ret
  exact ⟨A2, rfl, h2, HB.out⟩

end Go.Proofs.YtoeepfmmceilaaaGreatDoor
