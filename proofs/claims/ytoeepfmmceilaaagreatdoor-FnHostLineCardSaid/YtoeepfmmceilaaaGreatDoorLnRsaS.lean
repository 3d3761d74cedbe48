/- ssh.Unmarshal into zzRSAWire. -/
import Derived.Test.YtoeepfmmceilaaaGreatDoorLnBigA
import Derived.Test.YtoeepfmmceilaaaGreatDoorLnPubE
set_option linter.unusedVariables false
set_option linter.unusedSimpArgs false
namespace Go.Proofs.YtoeepfmmceilaaaGreatDoor
open Go.RowKit

theorem ta_big (D : TypeId) (v : Value) (W : World) : (Instr.typeAssert (.iface D v) 20 266 true).run Tryz.prog W = .ok (.tuple #[if D = 266 then v else .pointer none, .bool (decide (D = 266))]) W := ta_ptr Tryz.underlying266 (by kernel_rfl) _ D v W
theorem ta_strs_ (D : TypeId) (v : Value) (W : World) : (Instr.typeAssert (.iface D v) 20 263 true).run Tryz.prog W = .ok (.tuple #[if D = 263 then v else .pointer none, .bool (decide (D = 263))]) W := ta_strs D v W
/-- The fields of zzRSAWire. -/
def RsaF (w : World) (gp : Nat) (e : Ending) (w' : World) : Prop := ∃ b2, e = .returned (.tuple #[.slice none 0 0, .slice (some ⟨b2, 0, none⟩) 3 3]) ∧
  Blk w' b2 20 #[.iface 266 (.pointer (some ⟨gp, 0, none⟩)), .iface 266 (.pointer (some ⟨gp, 1, none⟩)), .iface 262 (.agg #[.pointer (some ⟨gp, 2, none⟩)])] ∧ w.heap.size ≤ b2 ∧ Below w.heap.size w w'
set_option maxHeartbeats 1000000 in
theorem fields_rsaWire (w : World) (gp : Nat) : Calls Tryz.prog 242 #[.pointer (some ⟨gp, 0, none⟩)] w (RsaF w gp) := by
  go_enter Tryz.func242, Tryz.ntmps242
  go_wp2_with fail
  go_region_law (fail)
  all_goals
    go_wp2
    go_ret2
    have hb : Below w.heap.size w (w.alloc (.cells #[.iface 266 (.pointer (some ⟨gp, 0, none⟩)), .iface 266 (.pointer (some ⟨gp, 1, none⟩)), .iface 262 (.agg #[.pointer (some ⟨gp, 2, none⟩)])] 20)) := (Below.refl _ _).alloc (Nat.le_refl _) _
    exact ⟨w.heap.size, rfl, Blk.new _ _ _, Nat.le_refl _, ⟨hb.os, hb.tape, hb.output, hb.size, hb.block⟩⟩

set_option maxRecDepth 100000 in
set_option maxHeartbeats 1600000 in
theorem unm_rsa (A : Option Addr) (c : Nat) (xs ys E N : List UInt8) (w : World) (gp : Nat) (hl : xs.length ≤ 10000) (hc : xs.length ≤ c) (hm : c ≤ 9223372036854775807) (hx : psP xs = some (padP E, ys)) (hy : psP ys = some (padP N, [])) (hr : RR (lit byteV) (fun b => b < gp) w A xs)
    (hb : Blk w gp 208 #[.pointer none, .pointer none, .slice none 0 0]) (hgp : gp + 1 = w.heap.size) :
    Calls Tryz.prog 145 #[.slice A xs.length c, .iface 210 (.pointer (some ⟨gp, 0, none⟩))] w fun e w' => e = .returned .nilIface ∧ Keep (but gp) w w' ∧ ∃ v1 v2 v3 : Value, Blk w' gp 208 #[v1, v2, v3] ∧ BigAt (fun b => gp < b) w' v1 E.reverse ∧ BigAt (fun b => gp < b) w' v2 N.reverse ∧ ∃ A3 c3, v3 = .slice A3 0 c3 := by
  have hme : ∀ W : World, (method 456 210 (.pointer (some ⟨gp, 0, none⟩)) "ZzFields").run Tryz.prog W = .ok (242, .pointer (some ⟨gp, 0, none⟩)) W := fun W => by kernel_rfl
  have hyl := psP_le hx
  have PX := Lib.hid (fun (W : World) (hr : RR (lit byteV) (fun b => b < gp) W A xs) => parseInt_pos (fun b => b < gp) A c xs E ys W (by omega) hc hm hr hx)
  have PY := Lib.hid (fun (W : World) (A : Option Addr) (c : Nat) (hb : Byts (fun b => b < gp) W (.slice A ys.length c) ys) => parseInt_pos (fun b => b < gp) A c ys N [] W (by omega) (byts_parts hb).1 (byts_parts hb).2.1 (byts_parts hb).2.2 hy)
  have HR := Lib.hid hr
  have HB := Lib.hid hb
  have HGP := Lib.hid hgp
  have hx4 : 4 ≤ xs.length := by
    unfold psP at hx
    split at hx
    · cases hx
    · omega
  have hz : ((xs.length : Int) == 0) = false := by rw [beq_eq_false_iff_ne]; omega
  clear hr hb hx hy hl hc hm hyl hx4 hgp
  have t1 := ta_bool
  have t2 := ta_arr
  have t3 := ta_u64
  have t4 := ta_u32
  have t5 := ta_u8
  have t6 := ta_str
  have t7 := ta_rest
  have t8 := ta_bytes
  have t9 := ta_strs
  have t10 := ta_big
  go_enter Tryz.func145, Tryz.ntmps145
  go_wp2_with (go_at_call 242; refine (fields_rsaWire _ _).mono ?_; rintro e w1 ⟨b2, rfl, hb2, hn2, hbl⟩; have HBL := Lib.hid hbl; have HB2 := Lib.hid hb2; have HN2 := Lib.hid hn2; clear hb2 hn2 hbl)
  have hb2l := HB2.out.lt
  have f0 : w1.cell? ⟨b2, 0, none⟩ = some (.iface 266 (.pointer (some ⟨gp, 0, none⟩))) := HB2.out.cell 0
  have HG1 := Lib.hid (show Blk w1 gp 208 #[.pointer none, .pointer none, .slice none 0 0] from (HBL.out.block gp HB.out.lt).trans HB.out)
  have HR1 := Lib.hid (HR.out.keep (lit_steady _) (Keep.of_below HBL.out))
  refine wp_loop_rounds 4 ?_
  rw [rounds_succ]
  go_wp2_with fail
  refine (PX.out _ HR1.out).mono ?_
  rintro e w2 ⟨v1, A2, c2, rfl, hv1, hy2, hb3⟩
  obtain ⟨g1, B1, ds1, k1, rfl, hg1, hbk1, hc1, hr1, hd1⟩ := hv1
  have HV1 := Lib.hid (show BigAt (fun b => w1.heap.size ≤ b) w2 (.pointer (some ⟨g1, 0, none⟩)) E.reverse from ⟨g1, B1, ds1, k1, rfl, hg1, hbk1, hc1, hr1, hd1⟩)
  have HY2 := Lib.hid hy2
  have HB3 := Lib.hid hb3
  have hg2 : Blk w2 gp 208 #[.pointer none, .pointer none, .slice none 0 0] := (hb3.block gp HG1.out.lt).trans HG1.out
  have q0 : w2.cell? ⟨gp, 0, none⟩ = some (.pointer none) := hg2.cell 0
  have p0 := hg2.frozen 0
  have HG2 := Lib.hid hg2
  have f0' := (hb3.cell (blk_lt_of_cell f0)).trans f0
  clear hy2 hb3 hg1 hbk1 hc1 hr1 hd1 hg2 f0 f0'
  -- the first store
  obtain ⟨W2, hW2⟩ : ∃ W, W = w2.setCell ⟨gp, 0, none⟩ (.pointer (some ⟨g1, 0, none⟩)) := ⟨_, rfl⟩
  have K2 : Keep (but gp) w2 W2 := by rw [hW2]; exact (Keep.refl _ _).setCell (fun _ hn => hn rfl) _
  have HG3 := Lib.hid (show Blk W2 gp 208 #[.pointer (some ⟨g1, 0, none⟩), .pointer none, .slice none 0 0] by rw [hW2]; exact HG2.out.set_ 0 _)
  have hlt : gp < w1.heap.size := HG1.out.lt
  have HV2 := Lib.hid ((HV1.out.mono (ok' := fun b => gp < b) (fun b _ hb => by omega)).keep (K2.mono (fun b _ hb => by show b ≠ gp; omega)))
  have HY3 := Lib.hid (bytes_steady.keep HY2.out (K2.mono (fun b _ hb => by show b ≠ gp; omega)))
  have hne : b2 ≠ gp := by have := HN2.out; have := HGP.out; omega
  have HB2' := Lib.hid (HB2.out.keep ((Keep.of_below HB3.out).trans K2) hne)
  have f1 : W2.cell? ⟨b2, 1, none⟩ = some (.iface 266 (.pointer (some ⟨gp, 1, none⟩))) := HB2'.out.cell 1
  have HK2 := Lib.hid K2
  clear K2
  have f1' := f1
  rw [hW2] at f1'
  go_wp2_with fail
  rw [← hW2]
  rw [rounds_succ]
  go_wp2_with fail
  rw [← hW2]
  have HW2 := Lib.hid hW2
  clear hW2 f1 f1'
  refine (PY.out W2 A2 c2 HY3.out).mono ?_
  rintro e w3 ⟨v2, A3, c3, rfl, hv2, hy4, hb4⟩
  obtain ⟨g2, B2, ds2, k2, rfl, hg2, hbk2, hc2, hr2, hd2⟩ := hv2
  have HV3 := Lib.hid (show BigAt (fun b => W2.heap.size ≤ b) w3 (.pointer (some ⟨g2, 0, none⟩)) N.reverse from ⟨g2, B2, ds2, k2, rfl, hg2, hbk2, hc2, hr2, hd2⟩)
  have HB4 := Lib.hid hb4
  have HV4 := Lib.hid (HV2.out.keep (Keep.of_below hb4))
  have hg4 : Blk w3 gp 208 #[.pointer (some ⟨g1, 0, none⟩), .pointer none, .slice none 0 0] := (hb4.block gp HG3.out.lt).trans HG3.out
  have q1 : w3.cell? ⟨gp, 1, none⟩ = some (.pointer none) := hg4.cell 1
  have p1 := hg4.frozen 1
  have HG4 := Lib.hid hg4
  have HB5 := Lib.hid (show Blk w3 b2 20 _ from (hb4.block b2 HB2'.out.lt).trans HB2'.out)
  have hltW : gp < W2.heap.size := HG3.out.lt
  clear hy4 hb4 hg2 hbk2 hc2 hr2 hd2 hg4 q0 p0
  -- the second store, and the third field
  obtain ⟨W3, hW3⟩ : ∃ W, W = w3.setCell ⟨gp, 1, none⟩ (.pointer (some ⟨g2, 0, none⟩)) := ⟨_, rfl⟩
  have K3 : Keep (but gp) w3 W3 := by rw [hW3]; exact (Keep.refl _ _).setCell (fun _ hn => hn rfl) _
  have HG5 := Lib.hid (show Blk W3 gp 208 #[.pointer (some ⟨g1, 0, none⟩), .pointer (some ⟨g2, 0, none⟩), .slice none 0 0] by rw [hW3]; exact HG4.out.set_ 1 _)
  have HV5 := Lib.hid ((HV3.out.mono (ok' := fun b => gp < b) (fun b _ hb => by omega)).keep (K3.mono (fun b _ hb => by show b ≠ gp; omega)))
  have HV6 := Lib.hid (HV4.out.keep (K3.mono (fun b _ hb => by show b ≠ gp; omega)))
  have HB6 := Lib.hid (HB5.out.keep K3 hne)
  have f2 : (w3.setCell ⟨gp, 1, none⟩ (.pointer (some ⟨g2, 0, none⟩))).cell? ⟨b2, 2, none⟩ = some (.iface 262 (.agg #[.pointer (some ⟨gp, 2, none⟩)])) := by rw [← hW3]; exact HB6.out.cell 2
  have q2 : ∀ o, ((w3.setCell ⟨gp, 1, none⟩ (.pointer (some ⟨g2, 0, none⟩))).alloc o).cell? ⟨gp, 2, none⟩ = some (.slice none 0 0) := fun o => by rw [← hW3]; exact (HG5.out.alloc o).cell 2
  have p2 : ∀ o, ((w3.setCell ⟨gp, 1, none⟩ (.pointer (some ⟨g2, 0, none⟩))).alloc o).frozen? ⟨gp, 2, none⟩ = false := fun o => by rw [← hW3]; exact (HG5.out.alloc o).frozen 2
  have HK3 := Lib.hid K3
  have HW3 := Lib.hid hW3
  clear K3 hW3
  go_wp2_with fail
  rw [rounds_succ]
  go_wp2_with fail
  rw [rounds_succ]
  go_wp2_with fail
  go_ret
  rw [← HW3.out]
  have K4 : Keep (but gp) W3 ((W3.alloc (.cells #[.pointer (some ⟨gp, 2, none⟩)] 262)).setCell ⟨gp, 2, none⟩ (.slice A3 0 c3)) := ((Keep.refl _ _).alloc _).setCell (fun _ hn => hn rfl) _
  have K4' := K4.mono (ok := but gp) (ok' := fun b => gp < b) (fun b _ hb => by show b ≠ gp; omega)
  refine ⟨rfl, ?_, .pointer (some ⟨g1, 0, none⟩), .pointer (some ⟨g2, 0, none⟩), .slice A3 0 c3, ?_, HV6.out.keep K4', HV5.out.keep K4', A3, c3, rfl⟩
  · exact ((((Keep.of_below HBL.out).trans (Keep.of_below HB3.out)).trans HK2.out).trans ((Keep.of_below HB4.out).trans HK3.out)).trans K4
  · exact (HG5.out.alloc _).set_ 2 (.slice A3 0 c3)

end Go.Proofs.YtoeepfmmceilaaaGreatDoor
/- ssh.parseRSA. -/
set_option linter.unusedVariables false
set_option linter.unusedSimpArgs false
namespace Go.Proofs.YtoeepfmmceilaaaGreatDoor
open Go.RowKit

theorem BitLen_at (ok : Nat → Prop) (w : World) (v : Value) (le : List UInt8) (hv : BigAt ok w v le) (ht : TopB le) (hll : le.length ≤ 10000) :
    Calls Tryz.prog 146 #[v] w fun e w' => w' = w ∧ ∃ bl : Nat, e = .returned (.int .i64 (bl : Int)) ∧ (bl + 7) / 8 = le.length ∧ ∀ x, le[le.length - 1]? = some x → (bl % 8 = 0 ↔ 128 ≤ x.toNat) := by
  obtain ⟨g, A, ds, c, rfl, hg, hb, hc, hr, hd⟩ := hv
  obtain ⟨hn0, hkn⟩ := digs_len hd.out ht
  obtain ⟨top, htop, htl, htz, hbits⟩ := digs_bits hd.out ht
  have hdl : ds.length ≤ 10000 := by
    have hx : ∃ b, b ≤ 32 ∧ top < 2 ^ b ∧ (b = 0 ∨ 2 ^ (b - 1) ≤ top) := ⟨Nat.log2 top + 1, by
      have := (Nat.log2_lt htz (k := 32)).2 (by omega)
      omega, (Nat.log2_lt htz).1 (by omega), Or.inr (by rw [Nat.add_sub_cancel]; exact Nat.log2_self_le htz)⟩
    obtain ⟨b, b1, b2, b3⟩ := hx
    have := (hbits b b1 b2 b3).1
    omega
  refine (BitLen_walk g ok A c ds top w (.bool false) hb hdl hn0 htop htl hr.out).mono ?_
  rintro e w' ⟨h1, b, h2, b1, b2, b3⟩
  exact ⟨h1, _, h2, hbits b b1 b2 b3⟩

/-- The value of at most three bytes. -/
def eV (le : List UInt8) : Nat := (le.getD 0 0).toNat + 256 * (le.getD 1 0).toNat + 65536 * (le.getD 2 0).toNat
theorem digs_one {ds : List Nat} {le : List UInt8} (h : Digs ds le) (ht : TopB le) (hl : le.length ≤ 3) : ds = [eV le] := by
  obtain ⟨hn0, _⟩ := digs_len h ht
  obtain ⟨top, htop, htl, htz, hbits⟩ := digs_bits h ht
  have hx : ∃ b, b ≤ 32 ∧ top < 2 ^ b ∧ (b = 0 ∨ 2 ^ (b - 1) ≤ top) := ⟨Nat.log2 top + 1, by
    have := (Nat.log2_lt htz (k := 32)).2 (by omega)
    omega, (Nat.log2_lt htz).1 (by omega), Or.inr (by rw [Nat.add_sub_cancel]; exact Nat.log2_self_le htz)⟩
  obtain ⟨b, b1, b2, b3⟩ := hx
  have h1 := (hbits b b1 b2 b3).1
  have hb0 : 1 ≤ b := by
    rcases Nat.eq_zero_or_pos b with e | e
    · rw [e] at b2; simp at b2; omega
    · exact e
  have hn : ds.length = 1 := by omega
  match ds, hn with
  | [d], _ =>
    have e0 := h.bytes 0
    have e1 := h.bytes 1
    have e2 := h.bytes 2
    have e3 := h.bytes 3
    have z3 : (le.getD 3 0).toNat = 0 := by rw [List.getD_eq_getElem?_getD, List.getElem?_eq_none (by omega)]; rfl
    have hd : d < 4294967296 := h.lt d (List.mem_cons_self ..)
    rw [z3] at e3
    have p1 : byteAt [d] 0 = d % 256 := by simp [byteAt]
    have p2 : byteAt [d] 1 = d / 256 % 256 := by simp [byteAt]
    have p3 : byteAt [d] 2 = d / 65536 % 256 := by simp [byteAt]
    have p4 : byteAt [d] 3 = d / 16777216 % 256 := by simp [byteAt]
    rw [p1] at e0
    rw [p2] at e1
    rw [p3] at e2
    rw [p4] at e3
    have : d = eV le := by unfold eV; omega
    rw [this]

set_option maxHeartbeats 800000 in
theorem low64_one (ok : Nat → Prop) (A : Option Addr) (c d : Nat) (w : World) (hd : d < 4294967296) (hr : RR (lit natV) ok w A [d]) :
    Calls Tryz.prog 159 #[.slice A 1 c] w fun e w' => e = .returned (.int .u64 (d : Int)) ∧ w' = w := by
  obtain ⟨ad, rfl, _, hcc⟩ := RR_at hr (by simp)
  have hcx : w.cell? ad = some (.int .u32 (d : Int)) := hcc 0 d rfl
  have hor : bits .or .u64 0 (d : Int) = (d : Int) := by
    have := u64_or_nat 0 d (by omega) (by omega)
    simpa using this
  clear hcc hr
  go_enter Tryz.func159, Tryz.ntmps159
  go_wp2_with fail
  refine wp_loop_rounds 2 ?_
  rw [rounds_succ]
  go_wp2_with fail
  rw [rounds_succ]
  go_wp2_with fail
  go_ret
  exact ⟨rfl, rfl⟩

/-- The block of a key of three bytes or fewer holds its only limb. -/
theorem Int64_at (ok : Nat → Prop) (w : World) (v : Value) (le : List UInt8) (hv : BigAt ok w v le) (ht : TopB le) (hll : le.length ≤ 3) :
    Calls Tryz.prog 147 #[v] w fun e w' => e = .returned (.int .i64 (eV le : Int)) ∧ w' = w := by
  obtain ⟨g, A, ds, c, rfl, hg, hb, hc, hr, hd⟩ := hv
  have hds := digs_one hd.out ht hll
  subst hds
  have hlt : eV le < 16777216 := by
    have a := (le.getD 0 0).toNat_lt
    have b := (le.getD 1 0).toNat_lt
    have c := (le.getD 2 0).toNat_lt
    unfold eV; omega
  have H := Lib.hid (low64_one ok A c (eV le) w (by omega) hr.out)
  have k0 : w.cell? ⟨g, 0, none⟩ = some (.bool false) := hb.cell 0
  have k1 : w.cell? ⟨g, 1, none⟩ = some (.slice A 1 c) := hb.cell 1
  obtain ⟨m, hm⟩ : ∃ m, m = eV le := ⟨_, rfl⟩
  rw [← hm] at hlt H ⊢
  have hwr : IntKind.wrap .i64 (m : Int) = (m : Int) := by rw [IntKind.wrap_i64]; omega
  clear hb hr hd hc ht hll hm
  go_enter Tryz.func147, Tryz.ntmps147
  go_wp2_with (go_at_call 159; refine H.out.mono ?_; rintro e w1 ⟨rfl, hw⟩; have hw := hw.symm; subst hw)
  go_ret
  exact ⟨rfl, rfl⟩

theorem i64_and1 (n : Nat) : bits .and .i64 (n : Int) 1 = ((n % 2 : Nat) : Int) := by
  have h1 : (BitVec.ofInt 64 1).toNat = 2 ^ 1 - 1 := by decide
  have key : (BitVec.ofInt 64 n &&& BitVec.ofInt 64 1).toNat = ((n : Int) % ((2 ^ 64 : Nat) : Int)).toNat % 2 ^ 1 := by
    rw [BitVec.toNat_and, BitVec.toNat_ofInt, h1, Nat.and_two_pow_sub_one_eq_mod]
  show IntKind.i64.wrap ((BitVec.ofInt 64 n &&& BitVec.ofInt 64 1).toNat : Nat) = ((n % 2 : Nat) : Int)
  rw [key, IntKind.wrap_i64]
  omega

/-- An RSA key as the parser hands it out. -/
def RsaPub (ok : Nat → Prop) (w : World) (v : Value) (E N : List UInt8) : Prop :=
  ∃ (g gn : Nat), v = .iface 214 (.pointer (some ⟨g, 0, none⟩)) ∧ ok g ∧ Blk w g 213 #[.pointer (some ⟨gn, 0, none⟩), .int .i64 (eV E.reverse : Int)] ∧ BigAt ok w (.pointer (some ⟨gn, 0, none⟩)) N.reverse
theorem RsaPub.keep {ok : Nat → Prop} {w w' : World} {v : Value} {E N : List UInt8} (h : RsaPub ok w v E N) (hk : Keep ok w w') : RsaPub ok w' v E N := by
  obtain ⟨g, gn, h1, h2, h3, h4⟩ := h
  exact ⟨g, gn, h1, h2, h3.keep hk h2, h4.keep hk⟩
/-- The numbers of an RSA key that is taken. -/
structure FitEN (E N : List UInt8) : Prop where
  el : E.length ≤ 3
  nl : N.length ≤ 512
  et : TopB E.reverse
  nt : TopB N.reverse
  e3 : 3 ≤ eV E.reverse
  eo : eV E.reverse % 2 = 1

set_option maxRecDepth 100000 in
set_option maxHeartbeats 1600000 in
theorem parseRsa_walk (A : Option Addr) (c : Nat) (xs ys E N : List UInt8) (w : World) (hf : FitEN E N) (hl : xs.length ≤ 10000) (hc : xs.length ≤ c) (hm : c ≤ 9223372036854775807) (hx : psP xs = some (padP E, ys)) (hy : psP ys = some (padP N, [])) (hr : RR (lit byteV) (fun b => b < w.heap.size) w A xs) :
    Calls Tryz.prog 129 #[.slice A xs.length c] w fun e w' => ∃ v A2 c2, e = .returned (.tuple #[v, .slice A2 0 c2, .nilIface]) ∧ RsaPub (fun b => w.heap.size ≤ b) w' v E N ∧ Below w.heap.size w w' := by
  obtain ⟨W0, hW0⟩ : ∃ W, W = w.alloc (.cells #[.pointer none, .pointer none, .slice none 0 0] 208) := ⟨_, rfl⟩
  have hb1 : Below w.heap.size w W0 := by rw [hW0]; exact (Below.refl _ _).alloc (Nat.le_refl _) _
  have hgp : w.heap.size + 1 = W0.heap.size := by rw [hW0]; simp
  have hB0 : Blk W0 w.heap.size 208 #[.pointer none, .pointer none, .slice none 0 0] := by rw [hW0]; exact Blk.new _ _ _
  have HU := Lib.hid (unm_rsa A c xs ys E N W0 w.heap.size hl hc hm hx hy (hr.keep (lit_steady _) (Keep.of_below hb1)) hB0 hgp)
  have hW := Lib.hid hW0
  have HB1 := Lib.hid hb1
  have HGP := Lib.hid hgp
  have HF := Lib.hid hf
  clear hW0 hb1 hgp hB0 hx hy hr hc hf
  go_enter Tryz.func129, Tryz.ntmps129
  go_wp2_with (first
    | (go_at_call 145; rw [← hW.out]; refine HU.out.mono ?_; rintro e w2 ⟨rfl, hk, v1, v2, v3, hb, hv1, hv2, A3, c3, rfl⟩; have hv1' := Lib.hid hv1; have hv2' := Lib.hid hv2; obtain ⟨g1, B1, ds1, cc1, rfl, x1, x2, x3, x4, x5⟩ := hv1; clear x1 x2 x3 x4 x5; obtain ⟨g2, B2, ds2, cc2, rfl, x1, x2, x3, x4, x5⟩ := hv2; clear x1 x2 x3 x4 x5; have k0 : w2.cell? ⟨w.heap.size, 0, none⟩ = some (.pointer (some ⟨g1, 0, none⟩)) := hb.cell 0; have k1 : w2.cell? ⟨w.heap.size, 1, none⟩ = some (.pointer (some ⟨g2, 0, none⟩)) := hb.cell 1; have HB := Lib.hid hb; have HK := Lib.hid hk; clear hb hk)
    | (go_at_call 146; refine (BitLen_at _ w2 _ _ hv2'.out HF.out.nt (by rw [List.length_reverse]; have := HF.out.nl; omega)).mono ?_; rintro e w3 ⟨hw3, bl, rfl, hbl, _⟩; have hw3 := hw3.symm; subst hw3; have y1 : ((16384 : Int) < (bl : Int)) = False := eq_false (by rw [List.length_reverse] at hbl; have := HF.out.nl; omega); clear hbl)
    | (go_at_call 146; refine (BitLen_at _ w2 _ _ hv1'.out HF.out.et (by rw [List.length_reverse]; have := HF.out.el; omega)).mono ?_; rintro e w3 ⟨hw3, bl2, rfl, hbl, _⟩; have hw3 := hw3.symm; subst hw3; have y2 : ((24 : Int) < (bl2 : Int)) = False := eq_false (by rw [List.length_reverse] at hbl; have := HF.out.el; omega); clear hbl)
    | (go_at_call 147; refine (Int64_at _ w2 _ _ hv1'.out HF.out.et (by rw [List.length_reverse]; exact HF.out.el)).mono ?_; rintro e w3 ⟨rfl, hw3⟩; have hw3 := hw3.symm; subst hw3; have y3 : ((eV E.reverse : Int) < 3) = False := eq_false (by have := HF.out.e3; omega); have y4 : bits .and .i64 (eV E.reverse : Int) 1 = 1 := (by rw [i64_and1, HF.out.eo]; rfl); have kd : ∀ o, (w2.alloc o).cell? ⟨w.heap.size, 1, none⟩ = some (.pointer (some ⟨g2, 0, none⟩)) := (fun o => (HB.out.alloc o).cell 1); have ke : ∀ o, (w2.alloc o).cell? ⟨w.heap.size, 2, none⟩ = some (.slice A3 0 c3) := (fun o => (HB.out.alloc o).cell 2)))
  go_quiet (fail)
  go_wp2
  go_ret3
  have hlt := HB.out.lt
  have K5 : Keep (fun b => w.heap.size < b) w2 (w2.alloc (.cells #[.pointer (some ⟨g2, 0, none⟩), .int .i64 (eV E.reverse : Int)] 213)) := (Keep.refl _ _).alloc _
  refine ⟨.iface 214 (.pointer (some ⟨w2.heap.size, 0, none⟩)), A3, c3, rfl, ⟨w2.heap.size, g2, rfl, Nat.le_of_lt hlt, Blk.drewN (Blk.new _ _ _) _, BigAt.keep (BigAt.mono (hv2'.out.keep K5) (fun b _ hb => Nat.le_of_lt hb)) ((Keep.refl _ _).drewN _)⟩, ?_⟩
  have K6 : Keep (but w.heap.size) W0 (w2.alloc (.cells #[.pointer (some ⟨g2, 0, none⟩), .int .i64 (eV E.reverse : Int)] 213)) := HK.out.alloc _
  refine ⟨K6.os.trans HB1.out.os, K6.tape.trans HB1.out.tape, K6.output.trans HB1.out.output, Nat.le_trans HB1.out.size K6.size, fun b hb => ?_⟩
  exact (K6.block b (Nat.lt_of_lt_of_le hb HB1.out.size) (Nat.ne_of_lt hb)).trans (HB1.out.block b hb)

end Go.Proofs.YtoeepfmmceilaaaGreatDoor
/- ssh.parseSKEd25519, parsePubKey of a token's key and of an RSA key. -/
set_option linter.unusedVariables false
set_option linter.unusedSimpArgs false
namespace Go.Proofs.YtoeepfmmceilaaaGreatDoor
open Go.RowKit

set_option maxHeartbeats 1000000 in
theorem fields_skWire (w : World) (gp : Nat) : Calls Tryz.prog 250 #[.pointer (some ⟨gp, 0, none⟩)] w (FieldsEnd0 w gp [(98, 0), (115, 1), (114, 2)]) := by
  go_enter Tryz.func250, Tryz.ntmps250
  go_wp2_with fail
  go_region_law (fail)
  all_goals
    go_wp2
    go_ret2
    first
      | exact FieldsEnd0.drew (FieldsEnd0.of _ _ _ _ rfl _ rfl)
      | exact FieldsEnd0.of _ _ _ _ rfl _ rfl
set_option maxHeartbeats 1000000 in
theorem fields_skKey (w : World) (gp : Nat) : Calls Tryz.prog 265 #[.pointer (some ⟨gp, 0, none⟩)] w (FieldsEnd0 w gp [(115, 0), (98, 1), (115, 2)]) := by
  go_enter Tryz.func265, Tryz.ntmps265
  go_wp2_with fail
  go_region_law (fail)
  all_goals
    go_wp2
    go_ret2
    first
      | exact FieldsEnd0.drew (FieldsEnd0.of _ _ _ _ rfl _ rfl)
      | exact FieldsEnd0.of _ _ _ _ rfl _ rfl
theorem rd_sk (pt ap : List UInt8) (h : pt.length < 4294967296) (ha : ap.length < 4294967296) : rdAll [98, 115, 114] (strP pt ++ strP ap) = some ([.b pt, .s ap, .r []], []) := by
  have h1 := psP_str pt (strP ap) h
  have h2 := psP_str ap [] ha
  rw [List.append_nil] at h2
  rw [rdAll_cons (rd1_b h1), rdAll_cons (rd1_s h2), rdAll_cons (rd1_r [])]
  rfl
/-- A token's key as the parser hands it out. -/
def SkPub (ok : Nat → Prop) (w : World) (v : Value) (pt ap : List UInt8) : Prop :=
  ∃ (g : Nat) (A : Option Addr) (c : Nat), v = .iface 222 (.pointer (some ⟨g, 0, none⟩)) ∧ ok g ∧ Blk w g 225 #[.string ⟨ap.toArray⟩, .slice A pt.length c, .bool false] ∧ pt.length ≤ c ∧ c ≤ 9223372036854775807 ∧ RR (lit byteV) ok w A pt
theorem SkPub.keep {ok : Nat → Prop} {w w' : World} {v : Value} {pt ap : List UInt8} (h : SkPub ok w v pt ap) (hk : Keep ok w w') : SkPub ok w' v pt ap := by
  obtain ⟨g, A, c, h1, h2, h3, h4, h5, h6⟩ := h
  exact ⟨g, A, c, h1, h2, h3.keep hk h2, h4, h5, h6.keep (lit_steady _) hk⟩

set_option maxRecDepth 100000 in
set_option maxHeartbeats 1600000 in
theorem parseSk_walk (ok : Nat → Prop) (A : Option Addr) (c : Nat) (pt ap : List UInt8) (w : World) (hl : pt.length = 32) (ha : ap.length ≤ 1000) (hc : (strP pt ++ strP ap).length ≤ c) (hm : c ≤ 9223372036854775807) (hok : ∀ b, ok b → b < w.heap.size) (hr : RR (lit byteV) ok w A (strP pt ++ strP ap)) :
    Calls Tryz.prog 131 #[.slice A (strP pt ++ strP ap).length c] w fun e w' => ∃ v A2 c2, e = .returned (.tuple #[v, .slice A2 0 c2, .nilIface]) ∧ SkPub (fun b => ok b ∨ w.heap.size ≤ b) w' v pt ap ∧ Below w.heap.size w w' := by
  have hsl : (strP pt ++ strP ap).length = 40 + ap.length := by rw [List.length_append, strP_len_, strP_len_, hl]; omega
  obtain ⟨W0, hW0⟩ : ∃ W, W = w.alloc (.cells #[.slice none 0 0, .string ⟨#[]⟩, .slice none 0 0] 220) := ⟨_, rfl⟩
  have hb1 : Below w.heap.size w W0 := by rw [hW0]; exact (Below.refl _ _).alloc (Nat.le_refl _) _
  have hB0 : Blk W0 w.heap.size 220 #[.slice none 0 0, .string ⟨#[]⟩, .slice none 0 0] := by rw [hW0]; exact Blk.new _ _ _
  have HU := Lib.hid (unmarshal_walk ok A c (strP pt ++ strP ap) W0 221 250 w.heap.size 220 #[.slice none 0 0, .string ⟨#[]⟩, .slice none 0 0] [(98, 0), (115, 1), (114, 2)] (by omega) (by omega) (by decide) hc hm (fun b hb => Nat.ne_of_lt (hok b hb)) (hr.keep (lit_steady _) (Keep.of_below hb1)) hB0 ⟨rfl, Or.inl rfl, rfl, Or.inr (Or.inl rfl), rfl, Or.inr (Or.inr rfl), Nat.le_refl _⟩ (fun W => by kernel_rfl) (fun W => by kernel_rfl) (fun W => fields_skWire W _))
  have HUE : ∀ e w2, UnmEnd ok W0 w.heap.size 220 [(98, 0), (115, 1), (114, 2)] (strP pt ++ strP ap) e w2 → e = .returned .nilIface ∧ ∃ A1 c1 A2 c2 cs, Blk w2 w.heap.size 220 cs ∧ cs[0]? = some (.slice A1 32 c1) ∧ cs[1]? = some (.string ⟨ap.toArray⟩) ∧ cs[2]? = some (.slice A2 0 c2) ∧ Hid (32 ≤ c1 ∧ c1 ≤ 9223372036854775807 ∧ RR (lit byteV) ok w2 A1 pt) ∧ Hid (Keep (but w.heap.size) W0 w2) := by
    intro e w2 hue
    obtain ⟨hk, hm2⟩ := hue
    rw [show ([(98, 0), (115, 1), (114, 2)] : List (UInt8 × Nat)).map (·.1) = [98, 115, 114] from rfl, rd_sk pt ap (by omega) (by omega)] at hm2
    obtain ⟨he, cs, hb, _, hg⟩ := hm2
    obtain ⟨_, v, hv, A1, c1, rfl, h1, h2, h3⟩ := hg 0 (.b pt) (98, 0) rfl rfl
    obtain ⟨_, hv1⟩ := hg 1 (.s ap) (115, 1) rfl rfl
    obtain ⟨_, v2, hv2, A2, c2, rfl, h4, h5, h6⟩ := hg 2 (.r []) (114, 2) rfl rfl
    rw [hl] at hv h1
    exact ⟨he, A1, c1, A2, c2, cs, hb, hv, hv1, hv2, ⟨h1, h2, h3⟩, hk⟩
  have HUE := Lib.hid HUE
  have HB1 := Lib.hid hb1
  have HOK := Lib.hid hok
  have HW := Lib.hid hW0
  have HL := Lib.hid hl
  rw [hsl] at HU hc ⊢
  clear hr hc hb1 hB0 hW0 hok hl
  go_enter Tryz.func131, Tryz.ntmps131
  go_wp2_with (go_at_call 145; rw [← HW.out]; refine HU.out.mono ?_; intro e w2 hue; obtain ⟨rfl, A1, c1, A2, c2, cs, hb, q0, q1, q2, h1, h2⟩ := HUE.out e w2 hue; clear hue; have HB := Lib.hid hb; have k0 := (hb.cell 0).trans q0; have kd : ∀ o, (w2.alloc o).cell? ⟨w.heap.size, 0, none⟩ = some (.slice A1 32 c1) := (fun o => ((HB.out.alloc o).cell 0).trans q0); have ke : ∀ o, (w2.alloc o).cell? ⟨w.heap.size, 1, none⟩ = some (.string ⟨ap.toArray⟩) := (fun o => ((HB.out.alloc o).cell 1).trans q1); have kf : ∀ o, (w2.alloc o).cell? ⟨w.heap.size, 2, none⟩ = some (.slice A2 0 c2) := (fun o => ((HB.out.alloc o).cell 2).trans q2); clear hb q0 q1 q2)
  go_quiet (fail)
  go_wp2
  go_ret3
  have hlt := HB.out.lt
  have K6 : Keep (but w.heap.size) W0 (w2.alloc (.cells #[.string ⟨ap.toArray⟩, .slice A1 32 c1, .bool false] 225)) := h2.out.alloc _
  have K7 : Keep ok w2 (w2.alloc (.cells #[.string ⟨ap.toArray⟩, .slice A1 32 c1, .bool false] 225)) := (Keep.refl _ _).alloc _
  refine ⟨.iface 222 (.pointer (some ⟨w2.heap.size, 0, none⟩)), A2, c2, rfl, ⟨w2.heap.size, A1, c1, rfl, Or.inr (Nat.le_of_lt hlt), by rw [HL.out]; exact Blk.drewN (Blk.new _ _ _) _, by rw [HL.out]; exact h1.out.1, h1.out.2.1, ((h1.out.2.2.keep (lit_steady _) K7).mono (lit_steady _) (fun b _ hb => Or.inl hb)).keep (lit_steady _) ((Keep.refl _ _).drewN _)⟩, ?_⟩
  refine ⟨K6.os.trans HB1.out.os, K6.tape.trans HB1.out.tape, K6.output.trans HB1.out.output, Nat.le_trans HB1.out.size K6.size, fun b hb => ?_⟩
  exact (K6.block b (Nat.lt_of_lt_of_le hb HB1.out.size) (Nat.ne_of_lt hb)).trans (HB1.out.block b hb)

end Go.Proofs.YtoeepfmmceilaaaGreatDoor
