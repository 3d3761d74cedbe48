/- ssh.marshalInt of a positive big number, into a block. -/
import Derived.Test.YtoeepfmmceilaaaGreatDoorLnMI
set_option linter.unusedVariables false
set_option linter.unusedSimpArgs false
namespace Go.Proofs.YtoeepfmmceilaaaGreatDoor
open Go.RowKit

theorem Blk.setRow {w : World} {g : Nat} {t : TypeId} {cs : Array Value} (h : Blk w g t cs) (cs' : Array Value) : Blk (w.setRow g cs') g t cs' := by
  unfold Blk at h ⊢
  simp [World.setRow, Array.getElem?_modify, h]
theorem Keep.setRow (w : World) (g : Nat) (cs' : Array Value) : Keep (but g) w (w.setRow g cs') :=
  ⟨rfl, rfl, rfl, by simp [World.setRow], fun k _ hk => by
    have hk : k ≠ g := hk
    simp only [World.setRow, Array.getElem?_modify]
    rw [if_neg (fun e => hk e.symm)]⟩
/-- A block with a list of bytes put from place o on. -/
structure PutIn (cs cs' : Array Value) (o : Nat) (l : List UInt8) : Prop where
  size : cs'.size = cs.size
  lo : ∀ i, i < o → cs'[i]? = cs[i]?
  put : ∀ i x, l[i]? = some x → cs'[o + i]? = some (byteV x)
/-- copy of bytes of another block. -/
theorem copy_put (w : World) (g o n c : Nat) (a : Addr) (m cm : Nat) (cur : Array Value) (t : TypeId) (l : List UInt8) (hg : Blk w g t cur) (hn : l.length = Nat.min m n)
    (hsrc : ∀ j x, l[j]? = some x → w.cell? (a.add j) = some (byteV x)) (hfit : o + l.length ≤ cur.size) :
    ∃ w2 cs', (Builtin.copy_ #[28, 28] 3 #[.slice (some ⟨g, o, none⟩) n c, .slice (some a) m cm]).run Tryz.prog w = .ok (.int .i64 (l.length : Int)) w2 ∧ Blk w2 g t cs' ∧ PutIn cur cs' o l ∧ (∀ i, o + l.length ≤ i → cs'[i]? = cur[i]?) ∧ Keep (but g) w w2 := by
  have hr := run_copy_row (P := Tryz.prog) w 28 28 3 5 g o n c a m cm cur t (l.map byteV) Tryz.underlying28 (by obtain ⟨i0, hi0, _, hsz, _⟩ := info_parts info_u8; rw [hi0]; simp [hsz]) hg (by rw [List.length_map]; exact hn) (fun j v hj => by
    rw [List.getElem?_map] at hj
    cases hx : l[j]? with
    | none => rw [hx] at hj; cases hj
    | some x => rw [hx] at hj; injection hj with hj; subst hj; exact hsrc j x hx) (by rw [List.length_map]; exact hfit) (fun v hv => by obtain ⟨x, _, rfl⟩ := List.mem_map.1 hv; rfl)
  rw [List.length_map] at hr
  have hz : cur.toList.length = cur.size := Array.length_toList
  refine ⟨_, _, hr, Blk.setRow hg _, ⟨?_, ?_, ?_⟩, ?_, Keep.setRow w _ _⟩
  · simp; omega
  · intro i hi
    rw [List.getElem?_toArray, List.append_assoc, List.getElem?_append_left (by rw [List.length_take]; omega), List.getElem?_take, if_pos hi, Array.getElem?_toList]
  · intro i x hx
    have hi : i < l.length := (List.getElem?_eq_some_iff.1 hx).1
    rw [List.getElem?_toArray, List.append_assoc, List.getElem?_append_right (by rw [List.length_take]; omega), List.length_take, show o + i - min o cur.toList.length = i by omega, List.getElem?_append_left (by rw [List.length_map]; omega), List.getElem?_map, hx]
    rfl
  · intro i hi
    have hz2 : (cur.toList.take o ++ l.map byteV).length = o + l.length := by rw [List.length_append, List.length_take, List.length_map]; omega
    rw [List.getElem?_toArray, List.getElem?_append_right (by rw [hz2]; exact hi), hz2, List.getElem?_drop]
    rw [show o + l.length + (i - (o + l.length)) = i by omega, Array.getElem?_toList]
theorem and128_of (x : Nat) (h : x < 256) : bits .and .u8 (x : Int) 128 = if 128 ≤ x then 128 else 0 := by
  have : ∀ d : Fin 256, bits .and .u8 (d.val : Int) 128 = if 128 ≤ d.val then 128 else 0 := by decide +kernel
  exact this ⟨x, h⟩
theorem slice_from_o {P : Program} (t e : TypeId) {i : TypeInfo} (ht : P.underlying t = some (.slice e)) (hi : P.info? e = some i) (hsz : i.size = 1) (g o n c m : Nat) (hm : m < n) (hc : n ≤ c) (W : World) :
    (Instr.slice t (.slice (some ⟨g, o, none⟩) n c) (some (.int .i64 (m : Int))) none none).run P W = .ok (.slice (some ⟨g, o + m, none⟩) (n - m) (c - m)) W := by
  have hel : P.elem t = e := by simp [Program.elem, ht]
  have hu : P.underlying t = some (.slice (P.elem t)) := by rw [hel]; exact ht
  rw [run_slice_l W t _ n c hu .i64 (m : Int) (Int.natCast_nonneg _) (by omega), hel]
  have h1 : c ≠ m := by omega
  by_cases h0 : m = 0
  · subst h0; simp [sizeOf, typeInfo, hi, hsz, sliced, Result.andThen, Addr.add]
  · simp [sizeOf, typeInfo, hi, hsz, sliced, Result.andThen, Addr.add, h1, h0]
theorem slice_from_x {P : Program} (t e : TypeId) {i : TypeInfo} (ht : P.underlying t = some (.slice e)) (hi : P.info? e = some i) (hsz : i.size = 1) (A : Option Addr) (n c m : Nat) (hm : m ≤ n) (hc : n ≤ c) :
    ∃ A', ∀ W : World, (Instr.slice t (.slice A n c) (some (.int .i64 (m : Int))) none none).run P W = .ok (.slice A' (n - m) (c - m)) W := by
  have hel : P.elem t = e := by simp [Program.elem, ht]
  have hu : P.underlying t = some (.slice (P.elem t)) := by rw [hel]; exact ht
  refine ⟨if c = m then A else A.map (·.add m), fun W => ?_⟩
  rw [run_slice_l W t _ n c hu .i64 (m : Int) (Int.natCast_nonneg _) (by omega), hel]
  simp [sizeOf, typeInfo, hi, hsz, sliced, Result.andThen]

theorem add_z (b k : Nat) : (⟨b, 0, none⟩ : Addr).add k = ⟨b, k, none⟩ := by unfold Addr.add; split <;> simp_all
theorem some_cell {w : World} {g : Nat} {t : TypeId} {cs : Array Value} (h : Blk w g t cs) (i : Nat) (hi : i < cs.size) : ∃ u, w.cell? ⟨g, i, none⟩ = some u := by
  rw [h.cell]
  exact ⟨_, Array.getElem?_eq_getElem hi⟩
theorem w64_1 (n : Nat) (h : n ≤ 100000) : wrap64 (1 + (n : Int)) = 1 + (n : Int) := by unfold wrap64; omega
theorem padP_pad {bs : List UInt8} {x : UInt8} (h : bs[0]? = some x) (hx : 127 < x.toNat) : padP bs = 0 :: bs := by
  match bs, h with
  | y :: r, h => injection h with h; subst h; simp [padP, hx]
theorem padP_bare {bs : List UInt8} {x : UInt8} (h : bs[0]? = some x) (hx : ¬ 127 < x.toNat) : padP bs = bs := by
  match bs, h with
  | y :: r, h => injection h with h; subst h; simp [padP, hx]
theorem byte0m (n : Nat) : Value.int .u8 ((n : Int) / 16777216 % 256) = byteV (UInt8.ofNat (n / 16777216)) := by unfold byteV; rw [ofNat_toNat]; rfl
theorem put_four {cs cs3 : Array Value} {o : Nat} {ps : List UInt8} (b0 b1 b2 b3 : UInt8) (hs : cs3.size = cs.size) (hlo : ∀ i, i < o → cs3[i]? = cs[i]?) (hin : ∀ i x, ps[i]? = some x → cs3[o + 4 + i]? = some (byteV x)) (hsz : o + 4 ≤ cs.size) :
    PutIn cs ((((cs3.setIfInBounds o (byteV b0)).setIfInBounds (o + 1) (byteV b1)).setIfInBounds (o + 2) (byteV b2)).setIfInBounds (o + 3) (byteV b3)) o (b0 :: b1 :: b2 :: b3 :: ps) := by
  refine ⟨by simp [hs], fun i hi => ?_, fun i x hx => ?_⟩
  · rw [Array.getElem?_setIfInBounds, if_neg (by omega), Array.getElem?_setIfInBounds, if_neg (by omega), Array.getElem?_setIfInBounds, if_neg (by omega), Array.getElem?_setIfInBounds, if_neg (by omega)]
    exact hlo i hi
  · match i, hx with
    | 0, hx =>
      obtain rfl : b0 = x := Option.some.inj hx
      rw [Array.getElem?_setIfInBounds, if_neg (by omega), Array.getElem?_setIfInBounds, if_neg (by omega), Array.getElem?_setIfInBounds, if_neg (by omega), Array.getElem?_setIfInBounds, if_pos (by omega), if_pos (by omega)]
    | 1, hx =>
      obtain rfl : b1 = x := Option.some.inj hx
      rw [Array.getElem?_setIfInBounds, if_neg (by omega), Array.getElem?_setIfInBounds, if_neg (by omega), Array.getElem?_setIfInBounds, if_pos rfl, if_pos (by simp; omega)]
    | 2, hx =>
      obtain rfl : b2 = x := Option.some.inj hx
      rw [Array.getElem?_setIfInBounds, if_neg (by omega), Array.getElem?_setIfInBounds, if_pos rfl, if_pos (by simp; omega)]
    | 3, hx =>
      obtain rfl : b3 = x := Option.some.inj hx
      rw [Array.getElem?_setIfInBounds, if_pos rfl, if_pos (by simp; omega)]
    | k + 4, hx =>
      have hx : ps[k]? = some x := hx
      rw [Array.getElem?_setIfInBounds, if_neg (by omega), Array.getElem?_setIfInBounds, if_neg (by omega), Array.getElem?_setIfInBounds, if_neg (by omega), Array.getElem?_setIfInBounds, if_neg (by omega), show o + (k + 4) = o + 4 + k by omega]
      exact hin k x hx
theorem put_fin {cs cs3 : Array Value} {o n : Nat} {ps : List UInt8} (hs : cs3.size = cs.size) (hlo : ∀ i, i < o → cs3[i]? = cs[i]?) (hin : ∀ i x, ps[i]? = some x → cs3[o + 4 + i]? = some (byteV x)) (hsz : o + 4 ≤ cs.size) :
    PutIn cs ((((cs3.setIfInBounds o (byteV (UInt8.ofNat (n / 16777216)))).setIfInBounds (o + 1) (byteV (UInt8.ofNat (n / 65536)))).setIfInBounds (o + 2) (byteV (UInt8.ofNat (n / 256)))).setIfInBounds (o + 3) (byteV (UInt8.ofNat n))) o (be4 n ++ ps) := by
  rw [be4_cons]
  exact put_four _ _ _ _ hs hlo hin hsz
/-- How marshalInt ends. -/
def MiEnd (w : World) (g : Nat) (t : TypeId) (cs : Array Value) (o : Nat) (l : List UInt8) (e : Ending) (w' : World) : Prop := (∃ r, e = .returned r) ∧ (∃ cs', Blk w' g t cs' ∧ PutIn cs cs' o l) ∧ Keep (but g) w w'
set_option maxRecDepth 100000 in
set_option maxHeartbeats 1600000 in
theorem marshalInt_walk (g o n c : Nat) (cs : Array Value) (t : TypeId) (w : World) (v : Value) (le : List UInt8) (hb : Blk w g t cs) (hv : BigAt (fun b => b < w.heap.size) w v le) (ht : TopB le) (hll : le.length ≤ 1000) (hn : n = (padP le.reverse).length + 4) (hc : n ≤ c) (hoc : o + n ≤ cs.size) :
    Calls Tryz.prog 215 #[.slice (some ⟨g, o, none⟩) n c, v] w (MiEnd w g t cs o (strP (padP le.reverse))) := by
  have HS := Lib.hid (Sign_walk _ w v le hv ht)
  have HB := Lib.hid (Bytes_walk w v le hv ht (by omega))
  obtain ⟨x, hx⟩ : ∃ x, le[le.length - 1]? = some x := ⟨_, List.getElem?_eq_getElem (by have := ht.1; omega)⟩
  have hpr := padP_rev le x hx
  have hL0 := ht.1
  have hx0 : le.reverse[0]? = some x := by
    rw [List.getElem?_reverse (by omega)]
    simpa using hx
  obtain ⟨bs, hbs⟩ : ∃ b, b = le.reverse := ⟨_, rfl⟩
  have hbl : bs.length = le.length := by rw [hbs, List.length_reverse]
  rw [← hbs] at HB hpr hx0 hn ⊢
  rw [← hbl] at hpr hL0 hll
  clear hv ht hx hbl hbs
  obtain ⟨q, hq⟩ : ∃ q, q = (padP bs).length := ⟨_, rfl⟩
  rw [← hq] at hpr hn
  have hq1 : 1 ≤ q := by split at hpr <;> omega
  have hq2 : q ≤ 1001 := by split at hpr <;> omega
  obtain ⟨i0, hi0, _, hsz, _⟩ := info_parts info_u8
  have s1 : ∀ W : World, (Instr.slice 28 (.slice (some ⟨g, o, none⟩) n c) (some (.int .i64 4)) none none).run Tryz.prog W = .ok (.slice (some ⟨g, o + 4, none⟩) q (c - 4)) W := fun W => by
    have := slice_from_o (P := Tryz.prog) 28 5 Tryz.underlying28 hi0 hsz g o n c 4 (by omega) hc W
    rw [show n - 4 = q by omega] at this
    exact this
  have i3 : (3 : Int) < (n : Int) := by omega
  have i2 : (2 : Int) < (n : Int) := by omega
  have i1 : (1 : Int) < (n : Int) := by omega
  have i0' : (0 : Int) < (n : Int) := by omega
  have i3n : (3 : Nat) < n := by omega
  have i2n : (2 : Nat) < n := by omega
  have i1n : (1 : Nat) < n := by omega
  have i0n : (0 : Nat) < n := by omega
  have j0 : (0 : Int) < (q : Int) := by omega
  have j0n : 0 < q := by omega
  have j1 : (0 : Int) < (bs.length : Int) := by omega
  have j1n : 0 < bs.length := by omega
  have HQ := Lib.hid (And.intro hq (And.intro hpr (And.intro hq2 (And.intro hn (And.intro hc (And.intro hoc hll))))))
  have HBk := Lib.hid hb
  have HX0 := Lib.hid hx0
  clear hb hpr hL0 hx0 hq hn hc hoc hll hq1 hq2
  by_cases h128 : 128 ≤ x.toNat
  · have hqL : q = bs.length + 1 := by rw [HQ.out.2.1, if_pos h128]
    have y1 : bits .and .u8 (x.toNat : Int) 128 = 128 := by rw [and128_of _ x.toNat_lt, if_pos h128]
    obtain ⟨c4, hc4⟩ : ∃ k, k = c - 4 := ⟨_, rfl⟩
    rw [← hc4] at s1
    have s2 : ∀ W : World, (Instr.slice 28 (.slice (some ⟨g, o + 4, none⟩) q c4) (some (.int .i64 1)) none none).run Tryz.prog W = .ok (.slice (some ⟨g, o + 5, none⟩) bs.length (c4 - 1)) W := fun W => by
      have hh := HQ.out
      have := slice_from_o (P := Tryz.prog) 28 5 Tryz.underlying28 hi0 hsz g (o + 4) q c4 1 (by omega) (by omega) W
      rw [show q - 1 = bs.length by omega] at this
      exact this
    obtain ⟨c5, hc5⟩ : ∃ k, k = c4 - 1 := ⟨_, rfl⟩
    rw [← hc5] at s2
    obtain ⟨A5, s3⟩ := slice_from_x (P := Tryz.prog) 28 5 Tryz.underlying28 hi0 hsz (some ⟨g, o + 5, none⟩) bs.length c5 bs.length (Nat.le_refl _) (by have hh := HQ.out; omega)
    have HQL := Lib.hid hqL
    have h127 : 127 < x.toNat := by omega
    have H127 := Lib.hid h127
    clear h128 hqL hc4 hc5 hi0 hsz h127
    go_enter Tryz.func215, Tryz.ntmps215
    go_wp2_with (first
      | (go_at_call 218; refine HS.out.mono ?_; rintro e w1 ⟨rfl, hw⟩; have hw := hw.symm; subst hw)
      | (go_at_call 220; refine HB.out.mono ?_; rintro e w2 ⟨gb, rfl, hgb, hbk, hbl⟩; have k0 : w2.cell? ⟨gb, 0, none⟩ = some (.int .u8 (x.toNat : Int)) := (by rw [hbk.cell]; simp [HX0.out, byteV]); have HG := Lib.hid (show Blk w2 g t cs from (hbl.block g HBk.out.lt).trans HBk.out); have HBK := Lib.hid hbk; have HBL := Lib.hid hbl; have HGB := Lib.hid hgb; obtain ⟨u4, q4⟩ : ∃ u, w2.cell? ⟨g, o + 4, none⟩ = some u := (by rw [HG.out.cell]; exact ⟨_, Array.getElem?_eq_getElem (by have := HQ.out; omega)⟩); have p4 := HG.out.frozen (o + 4); obtain ⟨w3, cs3, hcp, hb3, hp3, ho3, hk3⟩ := copy_put (w2.setCell ⟨g, o + 4, none⟩ (.int .u8 0)) g (o + 5) bs.length c5 ⟨gb, 0, none⟩ bs.length bs.length _ t bs (HG.out.set_ (o + 4) (.int .u8 0)) (by simp) (fun j z hj => by rw [add_z gb j]; exact (HBK.out.far (p := ⟨g, o + 4, none⟩) (by have := HBk.out.lt; have := HGB.out; show gb ≠ g; omega) _).cell j |>.trans (by simp [hj])) (by simp; have := HQ.out; have := HQL.out; omega); have HB3 := Lib.hid hb3; have HP3 := Lib.hid hp3; have HO3 := Lib.hid ho3; have HK3 := Lib.hid hk3; have f0 := hb3.frozen o; have f1 := hb3.frozen (o + 1); have f2 := hb3.frozen (o + 2); have f3 := hb3.frozen (o + 3); obtain ⟨u0, c0⟩ := some_cell hb3 o (by rw [hp3.size]; simp; have := HQ.out; omega); obtain ⟨u1, c1⟩ := some_cell hb3 (o + 1) (by rw [hp3.size]; simp; have := HQ.out; omega); obtain ⟨u2, c2⟩ := some_cell hb3 (o + 2) (by rw [hp3.size]; simp; have := HQ.out; omega); obtain ⟨u3, c3⟩ := some_cell hb3 (o + 3) (by rw [hp3.size]; simp; have := HQ.out; omega); clear hb3 hp3 ho3 hk3))
    go_ret
    have hh := HQ.out
    have yq : wrap64 (1 + (bs.length : Int)) = (q : Int) := by rw [w64_1 bs.length (by omega)]; have := HQL.out; omega
    rw [yq, byte0m, byte1, byte2, byte3]
    clear yq
    have hps : padP bs = 0 :: bs := padP_pad HX0.out H127.out
    have h4 : strP (padP bs) = be4 q ++ padP bs := by rw [hh.1]; exact strP_be4 _ (by omega)
    have hp := HP3.out
    refine ⟨⟨_, rfl⟩, ⟨_, (((HB3.out.set_ o _).set_ (o + 1) _).set_ (o + 2) _).set_ (o + 3) _, ?_⟩, ?_⟩
    · rw [h4]
      refine put_fin (by rw [hp.size]; simp) (fun i hi => ?_) (fun i z hz => ?_) (by omega)
      · rw [hp.lo i (by omega), Array.getElem?_setIfInBounds, if_neg (by omega)]
      · rw [hps] at hz
        match i, hz with
        | 0, hz =>
          injection hz with hz
          subst hz
          rw [hp.lo (o + 4 + 0) (by omega), Array.getElem?_setIfInBounds, if_pos rfl, if_pos (by omega)]
          rfl
        | k + 1, hz =>
          have hz : bs[k]? = some z := hz
          rw [show o + 4 + (k + 1) = o + 5 + k by omega]
          exact hp.put k z hz
    · have K1 : Keep (but g) w2 (w2.setCell ⟨g, o + 4, none⟩ (.int .u8 0)) := (Keep.refl _ _).setCell (fun _ hn => hn rfl) _
      exact (((((((Keep.of_below HBL.out).trans K1).trans HK3.out).trans ((Keep.refl _ _).setCell (fun _ hn => hn rfl) _)).trans ((Keep.refl _ _).setCell (fun _ hn => hn rfl) _)).trans ((Keep.refl _ _).setCell (fun _ hn => hn rfl) _)).trans ((Keep.refl _ _).setCell (fun _ hn => hn rfl) _))
  · have hqL : q = bs.length := by rw [HQ.out.2.1, if_neg h128]; rfl
    have y1 : bits .and .u8 (x.toNat : Int) 128 = 0 := by rw [and128_of _ x.toNat_lt, if_neg h128]
    obtain ⟨c4, hc4⟩ : ∃ k, k = c - 4 := ⟨_, rfl⟩
    rw [← hc4] at s1
    obtain ⟨A5, s3⟩ := slice_from_x (P := Tryz.prog) 28 5 Tryz.underlying28 hi0 hsz (some ⟨g, o + 4, none⟩) q c4 bs.length (by omega) (by have hh := HQ.out; omega)
    rw [show q - bs.length = 0 by omega] at s3
    have HQL := Lib.hid hqL
    have HX1 := Lib.hid h128
    clear h128 hqL hc4 hi0 hsz
    go_enter Tryz.func215, Tryz.ntmps215
    go_wp2_with (first
      | (go_at_call 218; refine HS.out.mono ?_; rintro e w1 ⟨rfl, hw⟩; have hw := hw.symm; subst hw)
      | (go_at_call 220; refine HB.out.mono ?_; rintro e w2 ⟨gb, rfl, hgb, hbk, hbl⟩; have k0 : w2.cell? ⟨gb, 0, none⟩ = some (.int .u8 (x.toNat : Int)) := (by rw [hbk.cell]; simp [HX0.out, byteV]); have HG := Lib.hid (show Blk w2 g t cs from (hbl.block g HBk.out.lt).trans HBk.out); have HBK := Lib.hid hbk; have HBL := Lib.hid hbl; have HGB := Lib.hid hgb; clear hbk hbl hgb; obtain ⟨w3, cs3, hcp, hb3, hp3, ho3, hk3⟩ := copy_put w2 g (o + 4) q c4 ⟨gb, 0, none⟩ bs.length bs.length _ t bs HG.out (by rw [HQL.out]; exact (Nat.min_self _).symm) (fun j z hj => by rw [add_z gb j]; exact (HBK.out.cell j).trans (by simp [hj])) (by have := HQ.out; have := HQL.out; omega); have HB3 := Lib.hid hb3; have HP3 := Lib.hid hp3; have HK3 := Lib.hid hk3; have f0 := hb3.frozen o; have f1 := hb3.frozen (o + 1); have f2 := hb3.frozen (o + 2); have f3 := hb3.frozen (o + 3); obtain ⟨u0, c0⟩ := some_cell hb3 o (by rw [hp3.size]; have := HQ.out; omega); obtain ⟨u1, c1⟩ := some_cell hb3 (o + 1) (by rw [hp3.size]; have := HQ.out; omega); obtain ⟨u2, c2⟩ := some_cell hb3 (o + 2) (by rw [hp3.size]; have := HQ.out; omega); obtain ⟨u3, c3⟩ := some_cell hb3 (o + 3) (by rw [hp3.size]; have := HQ.out; omega); clear hb3 hp3 ho3 hk3))
    go_ret
    have hh := HQ.out
    have yq : wrap64 (bs.length : Int) = (q : Int) := by rw [w64 bs.length (by omega)]; have := HQL.out; omega
    simp only [yq]
    rw [byte0m, byte1, byte2, byte3]
    clear yq
    have hps : padP bs = bs := padP_bare HX0.out (by have := HX1.out; omega)
    have h4 : strP (padP bs) = be4 q ++ padP bs := by rw [hh.1]; exact strP_be4 _ (by omega)
    have hp := HP3.out
    refine ⟨⟨_, rfl⟩, ⟨_, (((HB3.out.set_ o _).set_ (o + 1) _).set_ (o + 2) _).set_ (o + 3) _, ?_⟩, ?_⟩
    · rw [h4]
      refine put_fin hp.size (fun i hi => hp.lo i (by omega)) (fun i z hz => ?_) (by omega)
      rw [hps] at hz
      exact hp.put i z hz
    · exact (((((Keep.of_below HBL.out).trans HK3.out).trans ((Keep.refl _ _).setCell (fun _ hn => hn rfl) _)).trans ((Keep.refl _ _).setCell (fun _ hn => hn rfl) _)).trans ((Keep.refl _ _).setCell (fun _ hn => hn rfl) _)).trans ((Keep.refl _ _).setCell (fun _ hn => hn rfl) _)

end Go.Proofs.YtoeepfmmceilaaaGreatDoor
