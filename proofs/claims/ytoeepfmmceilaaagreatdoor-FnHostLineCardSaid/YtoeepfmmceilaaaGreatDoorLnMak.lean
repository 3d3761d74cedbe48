/- ssh.MarshalAuthorizedKey. -/
import Derived.Test.YtoeepfmmceilaaaGreatDoorLnEncT
import Derived.Test.YtoeepfmmceilaaaGreatDoorLnMKey
set_option linter.unusedVariables false
set_option linter.unusedSimpArgs false
namespace Go.Proofs.YtoeepfmmceilaaaGreatDoor
open Go.RowKit

set_option maxRecDepth 100000 in
set_option maxHeartbeats 800000 in
theorem encClose0_walk (ce ge b : Nat) (cs : Array Value) (w : World) (hE : EncB w ce ge b [] cs) :
    Calls Tryz.prog 195 #[.pointer (some ⟨ce, 0, none⟩)] w fun e w' => e = .returned .nilIface ∧ w' = w := by
  have k0 : w.cell? ⟨ce, 0, none⟩ = some .nilIface := (hE.blk.cell 0).trans hE.err
  have k6 : w.cell? ⟨ce, 6, none⟩ = some (.int .i64 0) := (hE.blk.cell 6).trans hE.nb
  clear hE
  go_enter Tryz.func195, Tryz.ntmps195
  go_wp2_with fail
  go_ret
  exact ⟨rfl, rfl⟩
theorem encCloseAll (B ce ge b : Nat) (l r : List UInt8) (cs : Array Value) (w : World) (hE : EncB w ce ge b r cs) (hG : Blk w ge 177 encC) (hb : BufAt B b l w) (hB : B ≤ w.heap.size) (hBc : B ≤ ce) (hcb : ce ≠ b) (hgc : ge ≠ ce) (hgb : ge ≠ b) (hl0 : 0 < l.length) (hl : l.length ≤ 10000) :
    Calls Tryz.prog 195 #[.pointer (some ⟨ce, 0, none⟩)] w fun e w' => e = .returned .nilIface ∧ BufAt B b (l ++ b64P r) w' ∧ Below B w w' := by
  by_cases hr : r = []
  · subst hr
    refine (encClose0_walk ce ge b cs w hE).mono ?_
    rintro e w' ⟨rfl, rfl⟩
    exact ⟨rfl, by rw [show b64P [] = [] from rfl, List.append_nil]; exact hb, Below.refl _ _⟩
  · exact encClose_walk B ce ge b l r cs w hE hG hb hB hBc hcb hgc hgb hl0 hl (List.length_pos_iff.2 hr)

theorem nameK_first (k : Int) : (nameK k)[0]? = some 115 := by
  unfold nameK
  split
  · rfl
  · split <;> rfl
theorem keyBytes_first {K : KeyP} : (keyBytesP K)[0]? = some 0 := by
  have hn := nameK_len K.kind
  unfold keyBytesP
  rw [strP_be4 _ (by omega), be4_cons]
  show some (UInt8.ofNat ((nameK K.kind).length / 16777216)) = some 0
  rw [show (nameK K.kind).length / 16777216 = 0 by omega]
  rfl
/-- The row of bytes that a call hands out, as the encoder reads it. -/
theorem own_else {w : World} {B ce b : Nat} {A : Option Addr} {c : Nat} {l xs : List UInt8} (h : w.ownsRow B 5 1 (.slice A xs.length c) xs.length (xs.map byteV)) (hx : xs[0]? = some 0) (hl : l[0]? = some 115) (hce : ce < B) (hb : b < B) :
    xs.length ≤ c ∧ c ≤ 9223372036854775807 ∧ RR (lit byteV) (fun k => k ≠ ce ∧ k ≠ b ∧ Else l w k) w A xs := by
  have hn : 0 < xs.length := (List.getElem?_eq_some_iff.1 hx).1
  rcases h.2 with ⟨_, h0⟩ | ⟨g, cap, cur, hv, h1, h2, h3, h4, h5, h6⟩
  · omega
  · injection hv with e1 e2 e3
    subst e1 e3
    have hcell : ∀ (i : Nat) (x : UInt8), xs[i]? = some x → cur[i]? = some (byteV x) := fun i x hi => by
      have hi3 : i < xs.length := (List.getElem?_eq_some_iff.1 hi).1
      have : (cur.toList.take (xs.length * 1))[i]? = (xs.map byteV)[i]? := congrArg (fun l : List Value => l[i]?) h6
      rw [List.getElem?_take, if_pos (by omega), Array.getElem?_toList, List.getElem?_map, hi] at this
      exact this
    have hel : Else l w g := ⟨cur, _, _, h2, fun x hx2 => by
      rw [hl] at hx2
      obtain rfl : (115 : UInt8) = x := Option.some.inj hx2
      rw [hcell 0 0 hx]
      intro e
      have e2 := Option.some.inj e
      simp [byteV] at e2⟩
    exact ⟨h3, h4, RR_blk 0 h2 ⟨by omega, by omega, hel⟩ (fun i x hi => by rw [Nat.zero_add]; exact hcell i x hi)⟩

theorem EncB.old {w w' : World} {ce ge b : Nat} {bf : List UInt8} {cs : Array Value} (h : EncB w ce ge b bf cs) (hb : Below w.heap.size w w') : EncB w' ce ge b bf cs := ⟨(hb.block ce h.blk.lt).trans h.blk, h.size, h.err, h.enc, h.out, h.nb, h.buf, h.bl⟩
def lineL (K : KeyP) : List UInt8 := ((nameK K.kind ++ [32]) ++ b64P (keyBytesP K)) ++ [10]
set_option maxRecDepth 100000 in
set_option maxHeartbeats 3200000 in
theorem mak_walk (T : TypeId) (u : Value) (K : KeyP) (w : World) (hf : FitK K) (h7 : (keyBytesP K).length < 768) (hP : PubAt (fun b => b < w.heap.size) w (.iface T u) K) :
    Calls Tryz.prog 52 #[.iface T u] w fun e w' => (∃ A c, e = .returned (.slice A (lineL K).length c) ∧ (lineL K).length ≤ c ∧ c ≤ 9223372036854775807 ∧ RR (lit byteV) (fun k => w.heap.size ≤ k) w' A (lineL K)) ∧ Below w.heap.size w w' := by
  obtain ⟨fT, fM, hm1, hc1, hT, hm2, hc2, hM⟩ := mets _ w T u K hP hf
  have hnl := nameK_len K.kind
  have HPU := Lib.hid hP
  obtain ⟨kb, hkb⟩ : ∃ n, n = keyBytesP K := ⟨_, rfl⟩
  have hkf : kb[0]? = some 0 := by rw [hkb]; exact keyBytes_first
  have hk3 : 3 ≤ kb.length := by rw [hkb]; unfold keyBytesP; rw [List.length_append, strP_len_]; omega
  obtain ⟨L, hL⟩ : ∃ n, n = lineL K := ⟨_, rfl⟩
  have HL := Lib.hid (show L = ((nameK K.kind ++ [32]) ++ b64P kb) ++ [10] by rw [hL, hkb]; rfl)
  rw [← hL]
  rw [← hkb] at h7
  have HKB := Lib.hid (And.intro hkb (And.intro hkf (And.intro hk3 h7)))
  have hM' : ∀ W : World, PubAt (fun b => b < W.heap.size) W (.iface T u) K → Calls Tryz.prog fM #[u] W (MarEnd W.heap.size W kb) := by rw [hkb]; exact hM
  have HT := Lib.hid hT
  have HM := Lib.hid hM'
  obtain ⟨nm, hnm⟩ : ∃ n, n = nameK K.kind := ⟨_, rfl⟩
  have hnf : nm[0]? = some 115 := by rw [hnm]; exact nameK_first _
  rw [← hnm] at hnl HT
  obtain ⟨W1, hW1⟩ : ∃ W, W = w.alloc (.cells #[.slice none 0 0, .int .i64 0, .int .i8 0] 116) := ⟨_, rfl⟩
  have hB1 : Below w.heap.size w W1 := by rw [hW1]; exact (Below.refl _ _).alloc (Nat.le_refl _) _
  have hI1 : BufAt w.heap.size w.heap.size [] W1 := by rw [hW1]; exact Lib.fresh_isBuffer _ _ w
  have HWS := Lib.hid (bufString w.heap.size w.heap.size [] nm W1 hI1 hB1.size (by simp; omega))
  have HB1 := Lib.hid hB1
  have HW1 := Lib.hid hW1
  have HNM := Lib.hid (And.intro hnm (And.intro hnl hnf))
  clear hP hT hM hM' hL hkb hkf hk3 h7 hB1 hI1 hW1 hnm hnl hnf
  go_enter Tryz.func52, Tryz.ntmps52
  go_upto_region 3 with (first
    | (go_at_call 76; rw [← HW1.out]; refine HWS.out.mono ?_; rintro e w2 ⟨⟨r, rfl⟩, h2, b2, o2⟩; have H2 := Lib.hid h2; have B2 := Lib.hid (HB1.out.trans b2); clear h2 b2 o2)
    | (refine (HT.out _).mono ?_; rintro e w9 ⟨rfl, rfl⟩))
  have hn0 : ([] ++ nm : List UInt8) = nm := rfl
  have HWB := Lib.hid (bufByte w.heap.size w.heap.size ([] ++ nm) 32 w2 H2.out B2.out.size (by rw [hn0]; have := HNM.out.2.1; omega))
  rw [hn0] at HWB
  clear hn0
  go_upto_region 4 with (go_at_call 77; refine HWB.out.mono ?_; rintro e w3 ⟨⟨r3, rfl⟩, h3, b3, o3⟩; have H3 := Lib.hid h3; have B3 := Lib.hid (B2.out.trans b3); clear h3 b3 o3)
  go_upto_region 5 with (first
    | (go_at_call 79; refine (zzB64_walk w3).mono ?_; rintro e w4 ⟨rfl, h4, b4⟩; have H4 := Lib.hid h4; have B4 := Lib.hid b4; clear h4 b4)
    | (go_at_call 78; refine (newEncoder_walk w4 w3.heap.size w.heap.size).mono ?_; rintro e w5 ⟨cs, rfl, h5, b5⟩; have H5 := Lib.hid h5; have B5 := Lib.hid b5; clear h5 b5))
  have I5 : BufAt w.heap.size w.heap.size (nm ++ [32]) w5 := Lib.IsBuffer.old (Lib.IsBuffer.old H3.out B4.out) B5.out
  have G5 : Blk w5 w3.heap.size 177 encC := (B5.out.block _ H4.out.lt).trans H4.out
  have C5 : Below w.heap.size w w5 := (B3.out.trans (B4.out.mono B3.out.size)).trans (B5.out.mono (Nat.le_trans B3.out.size B4.out.size))
  have z3 : w.heap.size < w3.heap.size := Lib.IsBuffer.lt H3.out
  have z4 : w3.heap.size < w4.heap.size := H4.out.lt
  have P5 : PubAt (fun b => b < w5.drew.heap.size) w5.drew (.iface T u) K := ((HPU.out.keep (Keep.of_below C5)).mono (fun b hb _ => hb)).keep ((Keep.refl _ _).drewN 1)
  have HMM := Lib.hid (HM.out w5.drew P5)
  have HGO := Lib.hid (And.intro I5 (And.intro G5 (And.intro C5 (And.intro z3 z4))))
  have HEW := Lib.hid (fun (W : World) (A : Option Addr) (c : Nat) (ho : W.ownsRow w5.heap.size 5 1 (.slice A kb.length c) kb.length (kb.map byteV)) (hb : Below w5.heap.size w5 W) =>
    have hx := own_else (l := nm ++ [32]) (ce := w4.heap.size) (b := w.heap.size) ho HKB.out.2.1 (by rw [List.getElem?_append_left (List.getElem?_eq_some_iff.1 HNM.out.2.2).1]; exact HNM.out.2.2) H5.out.blk.lt (Nat.lt_of_lt_of_le z3 (Nat.le_trans B4.out.size B5.out.size))
    encWrite_walk w.heap.size w4.heap.size w3.heap.size w.heap.size (nm ++ [32]) kb cs A c W (H5.out.old hb) ((hb.block _ G5.lt).trans G5) (Lib.IsBuffer.old I5 hb) (Nat.le_trans C5.size hb.size) (by omega) (by omega) (by omega) (by omega) (by simp) (by have := HNM.out.2.1; simp; omega) HKB.out.2.2.1 HKB.out.2.2.2 hx.1 hx.2.1 hx.2.2)
  have hmf : ∀ (fn : Fn) (first cap : Array Value) (w : World), (Instr.makeFunc fn first cap).run Tryz.prog w = .ok (.func fn first cap) w := fun _ _ _ _ => rfl
  have hmw : ∀ W : World, (method 456 162 (.pointer (some ⟨w4.heap.size, 0, none⟩)) "Write").run Tryz.prog W = .ok (196, .pointer (some ⟨w4.heap.size, 0, none⟩)) W := fun W => by kernel_rfl
  have hmc : ∀ W : World, (method 456 162 (.pointer (some ⟨w4.heap.size, 0, none⟩)) "Close").run Tryz.prog W = .ok (195, .pointer (some ⟨w4.heap.size, 0, none⟩)) W := fun W => by kernel_rfl
  have hna : ∀ W : World, (nilAhead 456 162 (.pointer (some ⟨w4.heap.size, 0, none⟩)) "Write").run Tryz.prog W = .ok (some false) W := fun W => by kernel_rfl
  clear I5 G5 C5 P5 z3 z4
  go_region_held3 (fun w' => True) (first | trivial) (first
    | (go_at_call 196; refine (HEW.out w6 A6 c6 HO6.out HB6.out).mono ?_; rintro e w7 ⟨⟨r7, rfl⟩, ⟨cs7, h7⟩, g7, i7, b7⟩; have H7 := Lib.hid h7; have G7 := Lib.hid g7; have I7 := Lib.hid i7; have B7 := Lib.hid b7; clear h7 g7 i7 b7)
    | (refine HMM.out.mono ?_; rintro e w6 ⟨A6, c6, rfl, ho6, hb6⟩; have HO6 := Lib.hid (show w6.ownsRow w5.heap.size 5 1 (.slice A6 kb.length c6) kb.length (kb.map byteV) from ho6); have HB6 := Lib.hid (show Below w5.heap.size w5 w6 from ⟨hb6.os, hb6.tape, hb6.output, hb6.size, hb6.block⟩); clear ho6 hb6))
  all_goals
    obtain ⟨m, hm⟩ : ∃ m, m = 3 * (kb.length / 3) := ⟨_, rfl⟩
    rw [← hm] at H7 I7
    have HM3 := Lib.hid hm
    have hx7 : ((nm ++ [32]) ++ b64P (kb.take m)) ++ b64P (kb.drop m) = (nm ++ [32]) ++ b64P kb := by rw [List.append_assoc, hm, b64P_cut _ _ (by omega)]
    obtain ⟨C5, z3, z4⟩ := HGO.out.2.2
    have C7 : Below w.heap.size w w7 := (C5.trans (HB6.out.mono C5.size)).trans B7.out
    have hn1 := HNM.out.2.1
    have hbl := b64P_len (kb.take m)
    have hk7 := HKB.out.2.2.2
    rw [List.length_take] at hbl
    have HCL := Lib.hid (encCloseAll w.heap.size w4.heap.size w3.heap.size w.heap.size ((nm ++ [32]) ++ b64P (kb.take m)) (kb.drop m) cs7 w7 H7.out G7.out I7.out C7.size (by omega) (by omega) (by omega) (by omega) (by simp only [List.length_append, List.length_cons, List.length_nil]; omega) (by simp only [List.length_append, List.length_cons, List.length_nil]; omega))
    rw [hx7] at HCL
    have HC7 := Lib.hid C7
    clear hm hx7 hbl hn1 hk7 C5 C7 z3 z4 hmw hna
    go_upto_region 7 with (go_at_call 195; refine HCL.out.mono ?_; rintro e w8 ⟨rfl, i8, b8⟩; have I8 := Lib.hid i8; have B8 := Lib.hid (HC7.out.trans b8); clear i8 b8)
    have HWB2 := Lib.hid (bufByte w.heap.size w.heap.size ((nm ++ [32]) ++ b64P kb) 10 w8 I8.out B8.out.size (by have h1 := b64P_len kb; have h2 := HKB.out.2.2.2; have h3 := HNM.out.2.1; simp only [List.length_append, List.length_cons, List.length_nil]; omega))
    rw [HNM.out.1, ← HL.out] at HWB2
    go_upto_region 8 with (go_at_call 77; refine HWB2.out.mono ?_; rintro e w9 ⟨⟨r9, rfl⟩, i9, b9, o9⟩; have I9 := Lib.hid i9; have B9 := Lib.hid (B8.out.trans b9); clear i9 b9 o9)
    have HBY := Lib.hid (bufBytes w.heap.size w.heap.size L w9 I9.out)
    go_wp2_with (go_at_call 80; refine HBY.out.mono ?_; rintro e w10 ⟨A, c, rfl, ho, n, hw⟩; have HO := Lib.hid ho; have HW := Lib.hid hw; clear ho hw)
    go_ret
    obtain ⟨q1, q2, q3⟩ := byts_parts (own_byts HO.out (ok := fun k => w.heap.size ≤ k) (fun b hb => hb))
    refine ⟨⟨A, c, rfl, q1, q2, q3⟩, ?_⟩
    have h9 := B9.out
    rw [HW.out]
    exact ⟨h9.os, h9.tape, h9.output, h9.size, h9.block⟩

end Go.Proofs.YtoeepfmmceilaaaGreatDoor
