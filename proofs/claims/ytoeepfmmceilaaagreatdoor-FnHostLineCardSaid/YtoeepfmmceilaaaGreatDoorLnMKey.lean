/- ssh.Marshal of an RSA key. -/
import Derived.Test.YtoeepfmmceilaaaGreatDoorLnMInt
set_option linter.unusedVariables false
set_option linter.unusedSimpArgs false
namespace Go.Proofs.YtoeepfmmceilaaaGreatDoor
open Go.RowKit

/-- The fields of zzRSAKey. -/
def rsaRow (gp : Nat) : Array Value := #[.iface 259 (.pointer (some ⟨gp, 0, none⟩)), .iface 266 (.pointer (some ⟨gp, 1, none⟩)), .iface 266 (.pointer (some ⟨gp, 2, none⟩))]
def RsaKF (w : World) (gp : Nat) (e : Ending) (w' : World) : Prop := ∃ b2, e = .returned (.tuple #[.slice none 0 0, .slice (some ⟨b2, 0, none⟩) 3 3]) ∧ Blk w' b2 20 (rsaRow gp) ∧ w.heap.size ≤ b2 ∧ Below w.heap.size w w'
set_option maxHeartbeats 1000000 in
theorem fields_rsaKey (w : World) (gp : Nat) : Calls Tryz.prog 263 #[.pointer (some ⟨gp, 0, none⟩)] w (RsaKF w gp) := by
  go_enter Tryz.func263, Tryz.ntmps263
  go_wp2_with fail
  go_region_law (fail)
  all_goals
    go_wp2
    go_ret2
    have hb : Below w.heap.size w (w.alloc (.cells (rsaRow gp) 20)) := (Below.refl _ _).alloc (Nat.le_refl _) _
    exact ⟨w.heap.size, rfl, Blk.new _ _ _, Nat.le_refl _, ⟨hb.os, hb.tape, hb.output, hb.size, hb.block⟩⟩

theorem take_put {cs : Array Value} {out l : List UInt8} (h1 : ∀ (i : Nat) (x : UInt8), out[i]? = some x → cs[i]? = some (byteV x)) (h2 : ∀ (i : Nat) (x : UInt8), l[i]? = some x → cs[out.length + i]? = some (byteV x)) : cs.toList.take (out.length + l.length) = (out ++ l).map byteV := by
  apply List.ext_getElem?
  intro i
  rw [List.getElem?_take, List.getElem?_map]
  by_cases hi : i < out.length
  · rw [if_pos (by omega), List.getElem?_append_left hi, Array.getElem?_toList, h1 i _ (List.getElem?_eq_getElem hi), List.getElem?_eq_getElem hi]
    rfl
  · by_cases hj : i < out.length + l.length
    · rw [if_pos hj, List.getElem?_append_right (by omega), Array.getElem?_toList]
      have := h2 (i - out.length) _ (List.getElem?_eq_getElem (by omega))
      rw [show out.length + (i - out.length) = i by omega] at this
      rw [this, List.getElem?_eq_getElem (by omega)]
      rfl
    · rw [if_neg hj, List.getElem?_eq_none (by simp; omega)]
      rfl
section
variable {B : Nat} {W w w' : World} {b2 : Nat} {cs2 : Array Value} {out : List UInt8} {c g : Nat}
/-- The row, opened. -/
theorem MsSt.open {A : Option Addr} (h : MsSt B W b2 cs2 A c out w) (hn : 0 < out.length) : ∃ g cur, A = some ⟨g, 0, none⟩ ∧ Blk w g 5 cur ∧ cur.size = c ∧ out.length ≤ c ∧ c ≤ maxLen ∧ B ≤ g ∧ g ≠ b2 ∧ ∀ (i : Nat) (x : UInt8), out[i]? = some x → cur[i]? = some (byteV x) := by
  have hne := own_ne_blk h.own h.row (by decide)
  rcases h.own.2 with ⟨_, h0⟩ | ⟨g, cap, cur, hv, h1, h2, h3, h4, h5, h6⟩
  · omega
  · injection hv with e1 e2 e3
    subst e1 e3
    refine ⟨g, cur, rfl, h2, by simpa using h5, h3, h4, h1, fun e => hne (by rw [e]; rfl), fun i x hx => ?_⟩
    have hi : i < out.length := (List.getElem?_eq_some_iff.1 hx).1
    have : (cur.toList.take (out.length * 1))[i]? = (out.map byteV)[i]? := congrArg (fun l : List Value => l[i]?) h6
    rw [List.getElem?_take, if_pos (by omega), Array.getElem?_toList, List.getElem?_map, hx] at this
    exact this
/-- A new row, or more in the old one. -/
theorem MsSt.put {A : Option Addr} {c0 : Nat} {out0 l : List UInt8} (h : MsSt B W b2 cs2 A c0 out0 w) {cs : Array Value} (hg : Blk w' g 5 cs) (hs : cs.size = c) (hc : c ≤ maxLen) (hB : B ≤ g) (hne : g ≠ b2) (hl : out.length + l.length ≤ c) (hk : Keep (but g) w w')
    (h1 : ∀ (i : Nat) (x : UInt8), out[i]? = some x → cs[i]? = some (byteV x)) (h2 : ∀ (i : Nat) (x : UInt8), l[i]? = some x → cs[out.length + i]? = some (byteV x)) : MsSt B W b2 cs2 (some ⟨g, 0, none⟩) c (out ++ l) w' := by
  have e : (out ++ l).length = out.length + l.length := List.length_append
  refine ⟨⟨by simp, Or.inr ⟨g, c, cs, rfl, hB, hg, by rw [e]; exact hl, hc, by rw [Nat.mul_one]; exact hs, by rw [Nat.mul_one, e]; exact take_put h1 h2⟩⟩, h.row.keep hk (fun e => hne e.symm), h.keep.trans (hk.mono fun b _ hb => by show b ≠ g; omega), h.lo⟩
end

theorem slice_to_c {P : Program} (t e : TypeId) {i : TypeInfo} (ht : P.underlying t = some (.slice e)) (hi : P.info? e = some i) (hsz : i.size = 1) (A : Option Addr) (n c m : Nat) (hm : m ≤ c) (W : World) :
    (Instr.slice t (.slice A n c) none (some (.int .i64 (m : Int))) none).run P W = .ok (.slice A m c) W := by
  have hel : P.elem t = e := by simp [Program.elem, ht]
  have hu : P.underlying t = some (.slice (P.elem t)) := by rw [hel]; exact ht
  rw [run_slice_h W t A n c hu .i64 (m : Int) (Int.natCast_nonneg _) (by omega), hel]
  cases A <;> simp [sizeOf, typeInfo, hi, hsz, sliced, Result.andThen, Addr.add]
/-- The bytes of the first k fields. -/
def rsaOut (e n : List UInt8) : Nat → List UInt8
  | 0 => []
  | 1 => strP nameRsa
  | 2 => strP nameRsa ++ strP (padP e)
  | _ => (strP nameRsa ++ strP (padP e)) ++ strP (padP n)

set_option maxRecDepth 100000 in
set_option maxHeartbeats 3200000 in
theorem marshal_rsa_walk (B : Nat) (w0 : World) (gp : Nat) (g1 g2 : Nat) (E N : List UInt8) (A : Option Addr) (c : Nat) (hf1 : TopB E.reverse) (hf2 : TopB N.reverse) (hl1 : E.length ≤ 3) (hl2 : N.length ≤ 512)
    (hgp : Blk w0 gp 342 #[.string ⟨nameRsa.toArray⟩, .pointer (some ⟨g1, 0, none⟩), .pointer (some ⟨g2, 0, none⟩)]) (hgpB : gp < B) (hB : B ≤ w0.heap.size) (hv1 : BigAt (fun b => b < B) w0 (.pointer (some ⟨g1, 0, none⟩)) E.reverse) (hv2 : BigAt (fun b => b < B) w0 (.pointer (some ⟨g2, 0, none⟩)) N.reverse)
    (hown : w0.ownsRow B 5 1 (.slice A 0 c) 0 []) :
    Calls Tryz.prog 208 #[.slice A 0 c, .iface 343 (.pointer (some ⟨gp, 0, none⟩))] w0 (MarEnd B w0 (rsaOut E N 3)) := by
  have hme : ∀ W : World, (method 456 343 (.pointer (some ⟨gp, 0, none⟩)) "ZzFields").run Tryz.prog W = .ok (263, .pointer (some ⟨gp, 0, none⟩)) W := fun W => by kernel_rfl
  have HBk := Lib.hid hgp
  have HOW := Lib.hid hown
  have HBs := Lib.hid hB
  have HV1 := Lib.hid hv1
  have HV2 := Lib.hid hv2
  have HF := Lib.hid (And.intro hf1 (And.intro hf2 (And.intro hl1 hl2)))
  have t1 := ta_bool
  have t2 := ta_arr
  have t3 := ta_u64
  have t4 := ta_u32
  have t5 := ta_u8
  have t6 := ta_str
  have t7 := ta_rest
  have t8 := ta_bytes
  have t9 := ta_strs
  have t10 := ta_big
  clear hgp hown hB hv1 hv2 hf1 hf2 hl1 hl2
  go_enter Tryz.func208, Tryz.ntmps208
  go_wp2_with (go_at_call 263; refine (fields_rsaKey _ _).mono ?_; rintro e w1 ⟨b2, rfl, hb2, hn2, hbl⟩; have HBL := Lib.hid hbl; have HB2 := Lib.hid hb2; have HBs1 := Lib.hid (Nat.le_trans HBs.out hbl.size); have HOW1 := Lib.hid (own_move_ HOW.out (fun k hk => hbl.block k (own_block_lt HOW.out hk).2)); clear hb2 hbl hn2)
  have HS2 := Lib.hid (show MsSt B w1 b2 (rsaRow gp) A c [] w1 from ⟨HOW1.out, HB2.out, Keep.refl _ _, HBs1.out⟩)
  have HG1 := Lib.hid (HV1.out.keep (Keep.of_below HBL.out))
  have HG2 := Lib.hid (HV2.out.keep (Keep.of_below HBL.out))
  have HK1 := Lib.hid (show Blk w1 gp 342 _ from (HBL.out.block gp HBk.out.lt).trans HBk.out)
  have HBE := Lib.hid (show Below B w0 w1 from HBL.out.mono HBs.out)
  clear HOW1 HBs1 HB2 HBL HBk HV1 HV2 HOW
  go_loopg [0, 48] 3 (fun gk v0 v48 wr => ∃ (A2 : Option Addr) (c2 k : Nat) (out : List UInt8), v0 = .slice A2 out.length c2 ∧ v48 = .int .i64 (k : Int) ∧ k ≤ 3 ∧ Hid (k + gk = 3) ∧ Hid (out = rsaOut E N k) ∧ Hid (MsSt B w1 b2 (rsaRow gp) A2 c2 out wr))
  case atStart => exact ⟨A, c, 0, [], rfl, rfl, by omega, by simp [Hid], rfl, HS2⟩
  case round =>
    clear HS2
    obtain ⟨A2, c2, k, out, rfl, rfl, hk, hgk, hout, HS⟩ := hrel
    rcases (show k = 3 ∨ k = 0 ∨ k = 1 ∨ k = 2 by omega) with rfl | rfl | h12
    ·
      have HFin := Lib.hid hout.out
      clear hout
      go_wp2_with fail
      go_ret
      rw [HFin.out] at HS
      have h9 := HS.out.keep
      exact ⟨A2, c2, by rw [HFin.out]; rfl, HS.out.own, HBE.out.trans ⟨h9.os, h9.tape, h9.output, h9.size, fun b hb => h9.block b (Nat.lt_of_lt_of_le hb HS.out.lo) hb⟩⟩
    ·
      have ho0 : out = [] := hout.out
      subst ho0
      have hfc : wr.cell? ⟨b2, 0, none⟩ = some (.iface 259 (.pointer (some ⟨gp, 0, none⟩))) := HS.out.row.cell 0
      have hblk := HS.out.cell hgpB HK1.out
      have hcv : wr.cell? ⟨gp, 0, none⟩ = some (.string ⟨nameRsa.toArray⟩) := hblk.cell 0
      have HSZ := Lib.hid HS.out.size
      have HP := Lib.hid (appInt B A2 c2 [] nameRsa.length (by decide) wr (by decide) HSZ.out HS.out.own)
      clear hblk
      go_wp2_with (first
          | (go_at_call 212; refine HP.out.mono ?_; intro e w3 hae; obtain ⟨o3, A3, c3, ho3, rfl, hown3, hg3⟩ := hae.any; have HS3 := Lib.hid (HS.out.grow hown3 hg3); clear hown3 hg3 hae)
          | (at_builtin; refine wpList_append_str rfl _ _ 28 9 rfl B 5 Tryz.underlying28 Tryz.underlying9 info_u8 (.slice A3 o3.length c3) (o3.map byteV) rfl HS3.out.own' nameRsa rfl (by rw [ho3.out]; decide) HS3.out.size ?_; intro A4 c4 w4 hown4 hg4; have HS4 := Lib.hid (HS3.out.grow (out' := o3 ++ nameRsa) (app_own hown4 (by simp)) hg4); clear hown4 hg4))
      go_roundg (gk - 1)
      case measure => have := hgk.out; omega
      case rel =>
        have hg := hgk.out
        have em : o3 ++ nameRsa = rsaOut E N 1 := by rw [ho3.out]; rfl
        exact ⟨A4, c4, 1, o3 ++ nameRsa, by simp, rfl, by omega, show _ = _ by omega, em, HS4⟩
    · obtain ⟨gv, bs, hfc0, hbig, htop, hbl, hnext, hol1, hol2⟩ : ∃ (gv : Nat) (bs : List UInt8), (rsaRow gp)[k]? = some (.iface 266 (.pointer (some ⟨gp, k, none⟩))) ∧ (wr.cell? ⟨gp, k, none⟩ = some (.pointer (some ⟨gv, 0, none⟩)) ∧ BigAt (fun b => b < B) w1 (.pointer (some ⟨gv, 0, none⟩)) bs.reverse) ∧ TopB bs.reverse ∧ bs.length ≤ 512 ∧ out ++ strP (padP bs) = rsaOut E N (k + 1) ∧ 11 ≤ out.length ∧ out.length ≤ 40 := by
        have hblk := HS.out.cell hgpB HK1.out
        rw [hout.out]
        rcases h12 with rfl | rfl
        · exact ⟨g1, E, rfl, ⟨hblk.cell 1, HG1.out⟩, HF.out.1, by have := HF.out.2.2.1; omega, rfl, by show 11 ≤ (strP nameRsa).length; decide, by show (strP nameRsa).length ≤ 40; decide⟩
        · refine ⟨g2, N, rfl, ⟨hblk.cell 2, HG2.out⟩, HF.out.2.1, HF.out.2.2.2, rfl, ?_, ?_⟩
          · show 11 ≤ (strP nameRsa ++ strP (padP E)).length
            rw [List.length_append, strP_len_, show nameRsa.length = 7 from rfl]
            omega
          · show (strP nameRsa ++ strP (padP E)).length ≤ 40
            have h1 := padP_len E
            have h2 := HF.out.2.2.1
            rw [List.length_append, strP_len_, strP_len_, show nameRsa.length = 7 from rfl]
            omega
      have hfc : wr.cell? ⟨b2, k, none⟩ = some (.iface 266 (.pointer (some ⟨gp, k, none⟩))) := (HS.out.row.cell k).trans hfc0
      have hcv := hbig.1
      have hbg := hbig.2.keep HS.out.keep
      have hkk : k < 3 := by omega
      have HNX := Lib.hid hnext
      have HBG := Lib.hid hbg
      have HIL := Lib.hid (intLength_walk _ wr _ bs.reverse hbg htop (by rw [List.length_reverse]; omega))
      rw [List.reverse_reverse] at HIL
      obtain ⟨nd, hnd⟩ : ∃ nd, nd = (padP bs).length + 4 := ⟨_, rfl⟩
      rw [← hnd] at HIL
      have hpl := padP_len bs
      have hndl : nd ≤ 520 := by omega
      obtain ⟨g, cur, rfl, hcur, hcs, hoc, hcm, hgB, hgb2, hpt⟩ := HS.out.open (by omega)
      have hmx : c2 ≤ 9223372036854775807 := hcm
      obtain ⟨m, hm⟩ : ∃ m, m = out.length := ⟨_, rfl⟩
      obtain ⟨i0, hi0, _, hsz, _⟩ := info_parts info_u8
      have HM := Lib.hid hm
      have HSZ := Lib.hid HS.out.size
      have HND := Lib.hid (And.intro hnd (And.intro hndl (And.intro hol1 (And.intro hol2 (And.intro hoc hcm)))))
      have HPT := Lib.hid hpt
      have HCS := Lib.hid hcs
      have HGB := Lib.hid (And.intro hgB hgb2)
      have HTP := Lib.hid (And.intro htop hbl)
      have HCU := Lib.hid hcur
      have HBB := Lib.hid (show BigAt (fun b => b < B) wr _ bs.reverse from hbg)
      have HOM := Lib.hid (show MsSt B w1 b2 (rsaRow gp) (some ⟨g, 0, none⟩) c2 out wr from HS.out)
      obtain ⟨q, hq⟩ : ∃ q, q = m + nd := ⟨_, rfl⟩
      have HQ := Lib.hid hq
      rw [← hm] at hol1 hol2 hoc ⊢
      clear HS hnext hfc0 hbig hbg htop hbl hpt hcs hgB hgb2 hcur
      by_cases hcap : c2 - m < nd
      ·
        have y1 : ((c2 : Int) - (m : Int) < (nd : Int)) = True := eq_true (by omega)
        obtain ⟨c5, hc5⟩ : ∃ k, k = 2 * q := ⟨_, rfl⟩
        have hmk : ∀ W : World, (Instr.makeSlice 28 (.int .i64 (m : Int)) (.int .i64 (2 * ((m : Int) + (nd : Int))))).run Tryz.prog W = .ok (.slice (some ⟨W.heap.size, 0, none⟩) m c5) (W.alloc (.cells (zeros c5) 5)) := fun W => by
          rw [show 2 * ((m : Int) + (nd : Int)) = (c5 : Int) by omega]
          obtain ⟨i, hi', hz, hs, hby⟩ := info_parts info_u8
          have h := run_make W 28 5 i (.int .u8 0) Tryz.underlying28 hi' hz .i64 .i64 (m : Int) (c5 : Int) (by omega) (by omega) (by rw [hby]; omega) (by omega)
          simp only [Int.toNat_natCast, hs, Nat.mul_one, Value.cells] at h
          exact h
        have hzs : (zeros c5).size = c5 := by unfold zeros; exact size_madeCells _ _
        have hBa : Blk (wr.alloc (.cells (zeros c5) 5)) wr.heap.size 5 (zeros c5) := Blk.new _ _ _
        obtain ⟨w4, cs4, hcp, hb4, hp4, ho4, hk4⟩ := copy_put (wr.alloc (.cells (zeros c5) 5)) wr.heap.size 0 m c5 ⟨g, 0, none⟩ m c2 _ 5 out hBa (by rw [← hm]; exact (Nat.min_self _).symm) (fun j z hj => by rw [add_z g j]; exact ((HCU.out.alloc _).cell j).trans (HPT.out j z hj)) (by rw [hzs]; omega)
        rw [← hm] at hcp
        have s1 : ∀ W : World, (Instr.slice 28 (.slice (some ⟨wr.heap.size, 0, none⟩) m c5) none (some (.int .i64 ((m : Int) + (nd : Int)))) none).run Tryz.prog W = .ok (.slice (some ⟨wr.heap.size, 0, none⟩) q c5) W := fun W => by
          rw [show (m : Int) + (nd : Int) = (q : Int) by omega]
          exact slice_to_c (P := Tryz.prog) 28 5 Tryz.underlying28 hi0 hsz _ m c5 q (by omega) W
        have s2 : ∀ W : World, (Instr.slice 28 (.slice (some ⟨wr.heap.size, 0, none⟩) q c5) (some (.int .i64 (m : Int))) none none).run Tryz.prog W = .ok (.slice (some ⟨wr.heap.size, m, none⟩) nd (c5 - m)) W := fun W => by
          have := slice_from_o (P := Tryz.prog) 28 5 Tryz.underlying28 hi0 hsz wr.heap.size 0 q c5 m (by omega) (by omega) W
          rw [show q - m = nd by omega, Nat.zero_add] at this
          exact this
        have HA := Lib.hid (show nd ≤ c5 - m ∧ m + nd ≤ c5 ∧ c5 ≤ 9223372036854775807 by omega)
        have hsz4 : cs4.size = c5 := by rw [hp4.size, hzs]
        have K4 : Keep (but wr.heap.size) wr w4 := ((Keep.refl _ _).alloc _).trans hk4
        have HMI := Lib.hid (marshalInt_walk wr.heap.size m nd (c5 - m) cs4 5 w4 (.pointer (some ⟨gv, 0, none⟩)) bs.reverse hb4 ((HBB.out.keep (K4.mono fun b _ hb => by have := HSZ.out; show b ≠ wr.heap.size; omega)).mono fun b _ hb => by have := HSZ.out; have := K4.size; omega) HTP.out.1 (by have := HTP.out.2; rw [List.length_reverse]; omega) (by rw [List.reverse_reverse]; exact HND.out.1) HA.out.1 (by rw [hsz4]; exact HA.out.2.1))
        rw [List.reverse_reverse] at HMI
        have HP4 := Lib.hid hp4
        have HK4 := Lib.hid K4
        have HZ4 := Lib.hid hsz4
        clear hp4 hk4 hb4 ho4 hsz4 K4 hBa hzs hc5 hcap hi0 hsz hm hq hnd
        go_wp2_with (first
          | (go_at_call 214; refine HIL.out.mono ?_; rintro e w9 ⟨rfl, hw⟩; have hw := hw.symm; subst hw)
          | (go_at_call 215; refine HMI.out.mono ?_; rintro e w5 ⟨⟨r, rfl⟩, ⟨cs5, hb5, hp5⟩, hk5⟩; have HB5 := Lib.hid hb5; have HP5 := Lib.hid hp5; have HK5 := Lib.hid hk5; clear hb5 hp5 hk5))
        go_roundg (gk - 1)
        case measure => have := hgk.out; omega
        case rel =>
          clear y1
          have hg := hgk.out
          have hsl : (strP (padP bs)).length = nd := by rw [strP_len_]; have := HND.out.1; omega
          have hmo := HM.out
          have hA := HA.out
          have hp5 := HP5.out
          have hp4 := HP4.out
          refine ⟨some ⟨wr.heap.size, 0, none⟩, c5, k + 1, out ++ strP (padP bs), by rw [List.length_append, hsl, ← hmo, ← HQ.out], by go_num, by omega, show _ = _ by omega, HNX.out, ?_⟩
          refine HOM.out.put HB5.out (by rw [hp5.size]; exact HZ4.out) hA.2.2 HSZ.out (Nat.ne_of_gt HOM.out.row.lt) (by rw [hsl, ← hmo]; exact hA.2.1) (HK4.out.trans HK5.out) (fun i x hx => ?_) (fun i x hx => ?_)
          · have hi : i < out.length := (List.getElem?_eq_some_iff.1 hx).1
            have h0 := hp4.put i x hx
            rw [Nat.zero_add] at h0
            rw [hp5.lo i (by omega)]
            exact h0
          · rw [← hmo]
            exact hp5.put i x hx
      ·
        have y1 : ((c2 : Int) - (m : Int) < (nd : Int)) = False := eq_false (by omega)
        have s1 : ∀ W : World, (Instr.slice 28 (.slice (some ⟨g, 0, none⟩) m c2) none (some (.int .i64 ((m : Int) + (nd : Int)))) none).run Tryz.prog W = .ok (.slice (some ⟨g, 0, none⟩) q c2) W := fun W => by
          rw [show (m : Int) + (nd : Int) = (q : Int) by omega]
          exact slice_to_c (P := Tryz.prog) 28 5 Tryz.underlying28 hi0 hsz _ m c2 q (by omega) W
        have s2 : ∀ W : World, (Instr.slice 28 (.slice (some ⟨g, 0, none⟩) q c2) (some (.int .i64 (m : Int))) none none).run Tryz.prog W = .ok (.slice (some ⟨g, m, none⟩) nd (c2 - m)) W := fun W => by
          have := slice_from_o (P := Tryz.prog) 28 5 Tryz.underlying28 hi0 hsz g 0 q c2 m (by omega) (by omega) W
          rw [show q - m = nd by omega, Nat.zero_add] at this
          exact this
        have HA := Lib.hid (show nd ≤ c2 - m ∧ m + nd ≤ c2 by omega)
        have HMI := Lib.hid (marshalInt_walk g m nd (c2 - m) cur 5 wr (.pointer (some ⟨gv, 0, none⟩)) bs.reverse HCU.out (HBB.out.mono fun b _ hb => Nat.lt_of_lt_of_le hb HSZ.out) HTP.out.1 (by have := HTP.out.2; rw [List.length_reverse]; omega) (by rw [List.reverse_reverse]; exact HND.out.1) HA.out.1 (by rw [HCS.out]; exact HA.out.2))
        rw [List.reverse_reverse] at HMI
        clear hcap hi0 hsz hm hq hnd
        go_wp2_with (first
          | (go_at_call 214; refine HIL.out.mono ?_; rintro e w9 ⟨rfl, hw⟩; have hw := hw.symm; subst hw)
          | (go_at_call 215; refine HMI.out.mono ?_; rintro e w5 ⟨⟨r, rfl⟩, ⟨cs5, hb5, hp5⟩, hk5⟩; have HB5 := Lib.hid hb5; have HP5 := Lib.hid hp5; have HK5 := Lib.hid hk5; clear hb5 hp5 hk5))
        go_roundg (gk - 1)
        case measure => have := hgk.out; omega
        case rel =>
          clear y1
          have hg := hgk.out
          have hsl : (strP (padP bs)).length = nd := by rw [strP_len_]; have := HND.out.1; omega
          have hmo := HM.out
          have hA := HA.out
          have hp5 := HP5.out
          refine ⟨some ⟨g, 0, none⟩, c2, k + 1, out ++ strP (padP bs), by rw [List.length_append, hsl, ← hmo, ← HQ.out], by go_num, by omega, show _ = _ by omega, HNX.out, ?_⟩
          refine HOM.out.put HB5.out (by rw [hp5.size]; exact HCS.out) HND.out.2.2.2.2.2 HGB.out.1 HGB.out.2 (by rw [hsl, ← hmo]; exact hA.2) HK5.out (fun i x hx => ?_) (fun i x hx => ?_)
          · have hi : i < out.length := (List.getElem?_eq_some_iff.1 hx).1
            rw [hp5.lo i (by omega)]
            exact HPT.out i x hx
          · rw [← hmo]
            exact hp5.put i x hx

end Go.Proofs.YtoeepfmmceilaaaGreatDoor
/- Type and Marshal of each kind of keys. -/
set_option linter.unusedVariables false
set_option linter.unusedSimpArgs false
namespace Go.Proofs.YtoeepfmmceilaaaGreatDoor
open Go.RowKit

set_option maxRecDepth 100000 in
set_option maxHeartbeats 800000 in
theorem marshalOf_rsa (w : World) (gp g1 g2 : Nat) (E N : List UInt8) (hf1 : TopB E.reverse) (hf2 : TopB N.reverse) (hl1 : E.length ≤ 3) (hl2 : N.length ≤ 512)
    (hgp : Blk w gp 342 #[.string ⟨nameRsa.toArray⟩, .pointer (some ⟨g1, 0, none⟩), .pointer (some ⟨g2, 0, none⟩)]) (hv1 : BigAt (fun b => b < w.heap.size) w (.pointer (some ⟨g1, 0, none⟩)) E.reverse) (hv2 : BigAt (fun b => b < w.heap.size) w (.pointer (some ⟨g2, 0, none⟩)) N.reverse) :
    Calls Tryz.prog 205 #[.iface 343 (.pointer (some ⟨gp, 0, none⟩))] w (MarEnd w.heap.size w (rsaOut E N 3)) := by
  have hb : Below w.heap.size w (w.alloc (.cells (zeros 64) 5)) := (Below.refl _ _).alloc (Nat.le_refl _) _
  have hown : (w.alloc (.cells (zeros 64) 5)).ownsRow w.heap.size 5 1 (.slice (some ⟨w.heap.size, 0, none⟩) 0 64) 0 [] :=
    ⟨rfl, .inr ⟨w.heap.size, 64, zeros 64, rfl, Nat.le_refl _, heap_alloc_new w _, by decide, by decide, by simp [zeros, ← Array.length_toList, toList_madeCells_one], rfl⟩⟩
  have HM := Lib.hid (marshal_rsa_walk w.heap.size (w.alloc (.cells (zeros 64) 5)) gp g1 g2 E N (some ⟨w.heap.size, 0, none⟩) 64 hf1 hf2 hl1 hl2 ((hb.block gp hgp.lt).trans hgp) hgp.lt (by simp) (hv1.keep (Keep.of_below hb)) (hv2.keep (Keep.of_below hb)) hown)
  have hmk : ∀ W : World, (Instr.makeSlice 28 (.int .i64 0) (.int .i64 64)).run Tryz.prog W = .ok (.slice (some ⟨W.heap.size, 0, none⟩) 0 64) (W.alloc (.cells (zeros 64) 5)) := fun W => by
    obtain ⟨i, hi', hz, hs, hby⟩ := info_parts info_u8
    have h := run_make W 28 5 i (.int .u8 0) Tryz.underlying28 hi' hz .i64 .i64 0 64 (by omega) (by omega) (by rw [hby]; omega) (by omega)
    simp only [hs, Nat.mul_one, Value.cells] at h
    exact h
  have HB := Lib.hid hb
  clear hgp hf1 hf2 hl1 hl2 hv1 hv2 hown hb
  go_enter Tryz.func205, Tryz.ntmps205
  go_wp2_with (go_at_call 208; refine HM.out.mono ?_; rintro e w2 ⟨A2, c2, rfl, hown2, hb2⟩; have HO2 := Lib.hid hown2; have HB2 := Lib.hid hb2; clear hown2 hb2)
  go_ret
  exact ⟨A2, c2, rfl, HO2.out, HB.out.trans HB2.out⟩

theorem eV_lt (le : List UInt8) : eV le < 16777216 := by
  unfold eV
  have h0 := (le.getD 0 0).toNat_lt
  have h1 := (le.getD 1 0).toNat_lt
  have h2 := (le.getD 2 0).toNat_lt
  omega
theorem MarEnd.up {B B' : Nat} {w0 w : World} {l : List UInt8} {e : Ending} {w' : World} (h : MarEnd B' w l e w') (hb : Below B w0 w) (hB : B ≤ B') : MarEnd B w0 l e w' := by
  obtain ⟨A, c, h1, h2, h3⟩ := h
  exact ⟨A, c, h1, own_base h2 hB, hb.trans (h3.mono hB)⟩

set_option maxRecDepth 100000 in
set_option maxHeartbeats 800000 in
theorem marshal_rsaM (g gn : Nat) (E N : List UInt8) (w : World) (hf : FitEN E N) (hb : Blk w g 213 #[.pointer (some ⟨gn, 0, none⟩), .int .i64 (eV E.reverse : Int)]) (hv : BigAt (fun b => b < w.heap.size) w (.pointer (some ⟨gn, 0, none⟩)) N.reverse) :
    Calls Tryz.prog 243 #[.pointer (some ⟨g, 0, none⟩)] w (MarEnd w.heap.size w (rsaOut E N 3)) := by
  have HN := Lib.hid (newInt_walk (eV E.reverse) E.reverse w (by have := hf.e3; omega) (by have := eV_lt E.reverse; omega) (digs_eV hf.et hf.el))
  have HM := Lib.hid (fun (W : World) (g1 : Nat) (h1 : BigAt (fun b => b < W.heap.size) W (.pointer (some ⟨g1, 0, none⟩)) E.reverse) (h2 : BigAt (fun b => b < W.heap.size) W (.pointer (some ⟨gn, 0, none⟩)) N.reverse) =>
    have hb9 : Below W.heap.size W (W.alloc (.cells #[.string ⟨nameRsa.toArray⟩, .pointer (some ⟨g1, 0, none⟩), .pointer (some ⟨gn, 0, none⟩)] 342)) := (Below.refl _ _).alloc (Nat.le_refl _) _
    (marshalOf_rsa (W.alloc (.cells #[.string ⟨nameRsa.toArray⟩, .pointer (some ⟨g1, 0, none⟩), .pointer (some ⟨gn, 0, none⟩)] 342)) W.heap.size g1 gn E N hf.et hf.nt hf.el hf.nl (Blk.new _ _ _) ((h1.keep (Keep.of_below hb9)).mono fun b _ hb => Nat.lt_of_lt_of_le hb hb9.size) ((h2.keep (Keep.of_below hb9)).mono fun b _ hb => Nat.lt_of_lt_of_le hb hb9.size)).mono fun e w' h => h.up hb9 hb9.size)
  have HBk := Lib.hid hb
  have HV := Lib.hid hv
  have k1 := hb.cell 1
  clear hf hb hv
  rw [show (⟨nameRsa.toArray⟩ : ByteArray) = ⟨#[115, 115, 104, 45, 114, 115, 97]⟩ from rfl] at HM
  go_enter Tryz.func243, Tryz.ntmps243
  go_wp2_with (first
    | (go_at_call 165; refine HN.out.mono ?_; rintro e w1 ⟨g1, rfl, h1, h2⟩; have H1 := Lib.hid (BigAt.mono (ok' := fun b => b < w1.heap.size) h1 (fun b hb _ => hb)); have H2 := Lib.hid h2; have k0 : w1.cell? ⟨g, 0, none⟩ = some (.pointer (some ⟨gn, 0, none⟩)) := Blk.cell ((h2.block g HBk.out.lt).trans HBk.out) 0; have HV1 := Lib.hid ((HV.out.keep (Keep.of_below h2)).mono (ok' := fun b => b < w1.heap.size) (fun b hb _ => hb)); clear h1 h2)
    | (go_at_call 205; refine (HM.out w1 g1 H1.out HV1.out).mono ?_; intro e w2 hm; have HME := Lib.hid (hm.up H2.out H2.out.size); obtain ⟨A2, c2, rfl, _, _⟩ := hm))
  go_ret
  exact HME.out

theorem type_rsa (v : Value) (w : World) : Calls Tryz.prog 244 #[v] w fun e w' => e = .returned (.string ⟨nameRsa.toArray⟩) ∧ w' = w := by
  go_enter Tryz.func244, Tryz.ntmps244
  go_wp2
  go_ret
  exact ⟨rfl, rfl⟩
theorem type_sk (v : Value) (w : World) : Calls Tryz.prog 252 #[v] w fun e w' => e = .returned (.string ⟨nameSk.toArray⟩) ∧ w' = w := by
  go_enter Tryz.func252, Tryz.ntmps252
  go_wp2
  go_ret
  exact ⟨rfl, rfl⟩

set_option maxRecDepth 100000 in
set_option maxHeartbeats 1000000 in
theorem marshal_skM (g : Nat) (A : Option Addr) (c : Nat) (pt ap : List UInt8) (w : World) (hl : pt.length = 32) (ha : ap.length ≤ 50) (hc : pt.length ≤ c) (hm : c ≤ 9223372036854775807)
    (hb : Blk w g 225 #[.string ⟨ap.toArray⟩, .slice A pt.length c, .bool false]) (hr : RR (lit byteV) (fun b => b < w.heap.size) w A pt) :
    Calls Tryz.prog 251 #[.pointer (some ⟨g, 0, none⟩)] w (MarEnd w.heap.size w (strP nameSk ++ (strP pt ++ strP ap))) := by
  have hb1 : Below w.heap.size w ((w.alloc (.cells #[.string ⟨nameSk.toArray⟩, .slice A pt.length c, .string ⟨ap.toArray⟩] 348)).drew) := ((Below.refl _ _).alloc (Nat.le_refl _) _).trans ⟨rfl, rfl, rfl, Nat.le_refl _, fun _ _ => rfl⟩
  have HM := Lib.hid (marshal_any ((w.alloc (.cells #[.string ⟨nameSk.toArray⟩, .slice A pt.length c, .string ⟨ap.toArray⟩] 348)).drew) w.heap.size 349 265 348 #[.string ⟨nameSk.toArray⟩, .slice A pt.length c, .string ⟨ap.toArray⟩] [(115, 0), (98, 1), (115, 2)] [.s nameSk, .b pt, .s ap] (Blk.new _ _ _) rfl (by decide)
    (by
      intro i fv q h1 h2
      match i, h1, h2 with
      | 0, h1, h2 =>
        injection h1 with h1
        injection h2 with h2
        subst h1 h2
        exact ⟨rfl, rfl⟩
      | 1, h1, h2 =>
        injection h1 with h1
        injection h2 with h2
        subst h1 h2
        exact ⟨rfl, _, rfl, A, c, rfl, hc, hm, (hr.keep (lit_steady _) (Keep.of_below hb1)).mono (lit_steady _) (fun b _ hb => Nat.lt_of_lt_of_le hb hb1.size)⟩
      | 2, h1, h2 =>
        injection h1 with h1
        injection h2 with h2
        subst h1 h2
        exact ⟨rfl, rfl⟩
      | n + 3, h1, h2 => simp at h1)
    (by
      intro fv hfv
      rcases List.mem_cons.1 hfv with rfl | hfv
      · show nameSk.length ≤ 4000; decide
      · rcases List.mem_cons.1 hfv with rfl | hfv
        · show pt.length ≤ 4000; omega
        · rcases List.mem_cons.1 hfv with rfl | hfv
          · show ap.length ≤ 4000; omega
          · cases hfv)
    (fun W => by kernel_rfl) (fun W => by kernel_rfl) (fun W => fields_skKey W _))
  have hms : mshAll [.s nameSk, .b pt, .s ap] = strP nameSk ++ (strP pt ++ strP ap) := by simp [mshAll, mshV]
  rw [hms] at HM
  obtain ⟨ys, hys⟩ : ∃ ys, ys = strP nameSk ++ (strP pt ++ strP ap) := ⟨_, rfl⟩
  rw [← hys] at HM ⊢
  have HB := Lib.hid hb1
  have k0a : w.cell? ⟨g, 0, none⟩ = some (.string ⟨ap.toArray⟩) := hb.cell 0
  have k1a : w.cell? ⟨g, 1, none⟩ = some (.slice A pt.length c) := hb.cell 1
  have k0 := cell_al k0a
  have k1 := cell_al (show w.cell? ⟨g, 1, none⟩ = some (.slice A pt.length c) from hb.cell 1)
  clear hr hb1 hc hms hb ha hl hys
  rw [show (⟨nameSk.toArray⟩ : ByteArray) = ⟨#[115, 107, 45, 115, 115, 104, 45, 101, 100, 50, 53, 53, 49, 57, 64, 111, 112, 101, 110, 115, 115, 104, 46, 99, 111, 109]⟩ from rfl] at HM HB
  go_enter Tryz.func251, Tryz.ntmps251
  go_wp2_with fail
  go_region_law (fail)
  all_goals
    go_wp2_with (go_at_call 205; refine HM.out.mono ?_; intro e w2 hm; have HME := Lib.hid (hm.up HB.out HB.out.size); obtain ⟨A2, c2, rfl, _, _⟩ := hm)
    go_ret
    exact HME.out

theorem EdPub.keep {ok : Nat → Prop} {w w' : World} {v : Value} {pt : List UInt8} (h : EdPub ok w v pt) (hk : Keep ok w w') : EdPub ok w' v pt := by
  obtain ⟨A, c, h1, h2, h3, h4⟩ := h
  exact ⟨A, c, h1, h2, h3, h4.keep (lit_steady _) hk⟩
theorem PubAt.keep {ok : Nat → Prop} {w w' : World} {v : Value} {K : KeyP} (h : PubAt ok w v K) (hk : Keep ok w w') : PubAt ok w' v K := by
  rcases h with ⟨h0, h1, h2⟩ | ⟨h0, h1, h2⟩ | ⟨h0, h1, h2, h3⟩
  · exact Or.inl ⟨h0, h1, h2.keep hk⟩
  · exact Or.inr (Or.inl ⟨h0, h1, h2.keep hk⟩)
  · exact Or.inr (Or.inr ⟨h0, h1, h2, h3.keep hk⟩)
theorem PubAt.mono {ok ok' : Nat → Prop} {w : World} {v : Value} {K : KeyP} (h : PubAt ok w v K) (hi : ∀ b, b < w.heap.size → ok b → ok' b) : PubAt ok' w v K := by
  rcases h with ⟨h0, h1, h2⟩ | ⟨h0, h1, h2⟩ | ⟨h0, h1, h2, h3⟩
  · obtain ⟨A, c, e1, e2, e3, e4⟩ := h2
    exact Or.inl ⟨h0, h1, A, c, e1, e2, e3, e4.mono (lit_steady _) hi⟩
  · obtain ⟨g, gn, e1, e2, e3, e4⟩ := h2
    exact Or.inr (Or.inl ⟨h0, h1, g, gn, e1, hi g e3.lt e2, e3, e4.mono hi⟩)
  · obtain ⟨g, A, c, e1, e2, e3, e4, e5, e6⟩ := h3
    exact Or.inr (Or.inr ⟨h0, h1, h2, g, A, c, e1, hi g e3.lt e2, e3, e4, e5, e6.mono (lit_steady _) hi⟩)
/-- The methods of a key that was read. -/
theorem mets (ok : Nat → Prop) (w : World) (T : TypeId) (u : Value) (K : KeyP) (h : PubAt ok w (.iface T u) K) (hf : FitK K) : ∃ fT fM : Nat,
    (∀ W : World, (method 456 T u "Type").run Tryz.prog W = .ok (fT, u) W) ∧ (∀ W : World, (callFunc fT #[u]).run Tryz.prog W = .ok (.enter fT #[u]) W) ∧ (∀ W : World, Calls Tryz.prog fT #[u] W (fun e w' => e = .returned (.string ⟨(nameK K.kind).toArray⟩) ∧ w' = W)) ∧
    (∀ W : World, (method 456 T u "Marshal").run Tryz.prog W = .ok (fM, u) W) ∧ (∀ W : World, (callFunc fM #[u]).run Tryz.prog W = .ok (.enter fM #[u]) W) ∧ (∀ W : World, PubAt (fun b => b < W.heap.size) W (.iface T u) K → Calls Tryz.prog fM #[u] W (MarEnd W.heap.size W (keyBytesP K))) := by
  rcases h with ⟨h0, h1, h2⟩ | ⟨h0, h1, h2⟩ | ⟨h0, h1, h2, h3⟩
  · obtain ⟨A, c, e1, e2, e3, e4⟩ := h2
    injection e1 with e5 e6
    subst e5 e6
    refine ⟨248, 247, fun W => by kernel_rfl, fun W => by kernel_rfl, fun W => ?_, fun W => by kernel_rfl, fun W => by kernel_rfl, fun W hW => ?_⟩
    · rw [show nameK K.kind = nameEd by rw [h0]; rfl]
      exact type_ed _ W
    · rcases hW with ⟨_, _, h4⟩ | ⟨h4, _⟩ | ⟨h4, _⟩
      · obtain ⟨A', c', q1, q2, q3, q4⟩ := h4
        injection q1 with q5 q6
        injection q6 with q7 q8 q9
        subst q7 q9
        have := marshal_ed (fun b => b < W.heap.size) A c K.pt W h1 q2 q3 (fun b hb => hb) q4
        rw [show keyBytesP K = edBytes K.pt by unfold keyBytesP keyBodyP; rw [h0]; rfl]
        exact this
      · rw [h0] at h4; exact absurd h4 (by decide)
      · rw [h0] at h4; exact absurd h4 (by decide)
  · obtain ⟨g, gn, e1, e2, e3, e4⟩ := h2
    injection e1 with e5 e6
    subst e5 e6
    refine ⟨244, 243, fun W => by kernel_rfl, fun W => by kernel_rfl, fun W => ?_, fun W => by kernel_rfl, fun W => by kernel_rfl, fun W hW => ?_⟩
    · rw [show nameK K.kind = nameRsa by rw [h0]; rfl]
      exact type_rsa _ W
    · rcases hW with ⟨h4, _⟩ | ⟨_, h5, h4⟩ | ⟨h4, _⟩
      · rw [h0] at h4; exact absurd h4 (by decide)
      · obtain ⟨g', gn', q1, q2, q3, q4⟩ := h4
        injection q1 with q5 q6
        injection q6 with q6
        injection q6 with q6
        injection q6 with q6
        subst q6
        have := marshal_rsaM g gn' K.e K.n W h5 q3 q4
        obtain ⟨_, d1, d2⟩ := fitEN_of hf h0
        rw [show keyBytesP K = rsaOut K.e K.n 3 by unfold keyBytesP keyBodyP mulP; rw [h0, d1, d2]; simp [rsaOut, nameK]]
        exact this
      · rw [h0] at h4; exact absurd h4 (by decide)
  · obtain ⟨g, A, c, e1, e2, e3, e4, e5, e6⟩ := h3
    injection e1 with e7 e8
    subst e7 e8
    refine ⟨252, 251, fun W => by kernel_rfl, fun W => by kernel_rfl, fun W => ?_, fun W => by kernel_rfl, fun W => by kernel_rfl, fun W hW => ?_⟩
    · rw [show nameK K.kind = nameSk by rw [h0]; rfl]
      exact type_sk _ W
    · rcases hW with ⟨h4, _⟩ | ⟨h4, _⟩ | ⟨_, _, _, h4⟩
      · rw [h0] at h4; exact absurd h4 (by decide)
      · rw [h0] at h4; exact absurd h4 (by decide)
      · obtain ⟨g', A', c', q1, q2, q3, q4, q5, q6⟩ := h4
        injection q1 with q7 q8
        injection q8 with q8
        injection q8 with q8
        injection q8 with q8
        subst q8
        have := marshal_skM g A' c' K.pt K.app W h1 h2 q4 q5 q3 q6
        rw [show keyBytesP K = strP nameSk ++ (strP K.pt ++ strP K.app) by unfold keyBytesP keyBodyP; rw [h0]; rfl]
        exact this

end Go.Proofs.YtoeepfmmceilaaaGreatDoor
