/- impl.wire: the other end of an agent, at one request of one byte. -/
import Derived.Test.YtmblpmmnglmjfaaGreatDoorAgRf
import Derived.Test.YtmblpmmnglmjfaaGreatDoorAgWBytes
import Derived.Laws.CopyRow
set_option linter.unusedVariables false
set_option linter.unusedSimpArgs false
namespace Go.Proofs.YtmblpmmnglmjfaaGreatDoor
open Go.RowKit

theorem Blk.setRow {w : World} {g : Nat} {t : TypeId} {cs : Array Value} (h : Blk w g t cs) (cs' : Array Value) : Blk (w.setRow g cs') g t cs' := by
  unfold Blk at h ⊢
  simp [World.setRow, Array.getElem?_modify, h]
theorem Keep.setRow (w : World) (g : Nat) (cs' : Array Value) : Keep (but g) w (w.setRow g cs') :=
  ⟨rfl, rfl, rfl, by simp [World.setRow], fun k _ hk => by
    have hk : k ≠ g := hk
    simp only [World.setRow, Array.getElem?_modify]
    rw [if_neg (fun e => hk e.symm)]⟩
theorem copy_blk (w : World) (g o n c : Nat) (a : Addr) (m cm : Nat) (cur : Array Value) (t : TypeId) (cs : List Value) (hg : Blk w g t cur) (hn : cs.length = Nat.min m n)
    (hsrc : ∀ j v, cs[j]? = some v → w.cell? (a.add j) = some v) (hfit : o + cs.length ≤ cur.size) (h1 : ∀ v ∈ cs, v.oneCell' = true) :
    ∃ w2, (Builtin.copy_ #[26, 26] 3 #[.slice (some ⟨g, o, none⟩) n c, .slice (some a) m cm]).run Tryz.prog w = .ok (.int .i64 (cs.length : Int)) w2 ∧ Blk w2 g t (cur.toList.take o ++ cs ++ cur.toList.drop (o + cs.length)).toArray ∧ Keep (fun b => b ≠ g) w w2 :=
  ⟨w.setRow g _, run_copy_row (P := Tryz.prog) w 26 26 3 5 g o n c a m cm cur t cs Tryz.underlying26 (by obtain ⟨i0, hi0, _, hsz, _⟩ := info_parts info_u8; rw [hi0]; simp [hsz]) hg hn hsrc hfit h1, Blk.setRow hg _, Keep.setRow w _ _⟩

set_option maxRecDepth 100000 in
set_option maxHeartbeats 800000 in
theorem wread2 (w : World) (gw gp c cL : Nat) (ad : Addr) (at_ : Int) (rv ov u x : Value) (tp : TypeId) (hb : Blk w gw 55 #[rv, .int .i64 at_, .slice (some ad) 1 cL, ov]) (hp : Blk w gp tp #[u]) (hx : w.cell? ad = some x) (hne : gp ≠ gw) (h1 : ad.block ≠ gw) (h2 : ad.block ≠ gp) (hcL : 1 ≤ cL) (hu : x.oneCell' = true) :
    Calls Tryz.prog 112 #[.pointer (some ⟨gw, 0, none⟩), .slice (some ⟨gp, 0, none⟩) 1 c] w fun e w' => e = .returned (.tuple #[.int .i64 1, .nilIface]) ∧ Blk w' gp tp #[x] ∧ (∃ A' c', Blk w' gw 55 #[rv, .int .i64 at_, .slice A' 0 c', ov]) ∧ Keep (fun b => b ≠ gw ∧ b ≠ gp) w w' := by
  have k0 := hb.cell 0
  have k1 := hb.cell 1
  have k2 := hb.cell 2
  obtain ⟨w2, hcp, hp2, hk2⟩ := copy_blk w gp 0 1 c ad 1 cL #[u] tp [x] hp rfl (fun j v hj => by
    cases j with
    | zero => injection hj with hj; subst hj; simpa [Addr.add] using hx
    | succ n => simp at hj) (by simp) (fun v hv => by obtain rfl : v = x := by simpa using hv
                                                      exact hu)
  have hcp : (Builtin.copy_ #[26, 26] 3 #[.slice (some ⟨gp, 0, none⟩) 1 c, .slice (some ad) 1 cL]).run Tryz.prog w = .ok (.int .i64 1) w2 := hcp
  have hb2 : Blk w2 gw 55 #[rv, .int .i64 at_, .slice (some ad) 1 cL, ov] := hb.keep hk2 (by exact fun e => hne e.symm)
  have k22 := hb2.cell 2
  have f22 := hb2.frozen 2
  have HB := Lib.hid hb2
  have HP := Lib.hid hp2
  have HK := Lib.hid hk2
  clear hb hp hx hb2 hp2 hk2
  go_enter Tryz.func112, Tryz.ntmps112
  go_wp2_with fail
  all_goals
    go_ret2
    exact ⟨rfl, HP.out.far hne _, ⟨_, _, HB.out.set_ 2 _⟩, (HK.out.mono fun b _ ho => ho.2).setCell (fun _ ho => ho.1 rfl) _⟩

set_option maxRecDepth 100000 in
set_option maxHeartbeats 800000 in
theorem wread3 (w : World) (gw cr cL T n c : Nat) (ra : Addr) (A p : Option Addr) (ov v : Value) (hb : Blk w gw 55 #[.slice (some ra) 1 cr, .int .i64 1, .slice A 0 cL, ov]) (he : w.cell? ⟨2, 0, none⟩ = some (.iface T v)) :
    Calls Tryz.prog 112 #[.pointer (some ⟨gw, 0, none⟩), .slice p n c] w fun e w' => e = .returned (.tuple #[.int .i64 0, .iface T v]) ∧ Below w.heap.size w w' := by
  have k0 := hb.cell 0
  have k1 := hb.cell 1
  have k2 := hb.cell 2
  clear hb
  go_enter Tryz.func112, Tryz.ntmps112
  go_upto_region 2 with fail
  go_region
  go_upto_region 3 with fail
  go_region
  go_wp2_with fail
  go_ret2
  exact ⟨rfl, (Below.refl _ _).drew.drew⟩

theorem rr_one {w : World} {ad : Addr} {x : UInt8} (h : w.cell? ad = some (byteV x)) : RR (lit byteV) all_ w (some ad) [x] := fun i y hi => by
  cases i with
  | zero =>
    injection hi with hi
    subst hi
    exact ⟨ad, _, rfl, trivial, by simpa [Addr.add] using h, rfl⟩
  | succ n => simp at hi
theorem lit4_own (w : World) (x0 x1 x2 x3 : Value) (h : ∀ x ∈ [x0, x1, x2, x3], x.oneCell' = true) : (w.alloc (.cells #[x0, x1, x2, x3] 5)).ownsRow w.heap.size 5 1 (.slice (some ⟨w.heap.size, 0, none⟩) 4 4) 4 [x0, x1, x2, x3] :=
  ⟨rfl, .inr ⟨w.heap.size, 4, #[x0, x1, x2, x3], rfl, Nat.le_refl _, heap_alloc_new w _, by decide, by decide, by simp, rfl⟩⟩

set_option maxRecDepth 100000 in
set_option maxHeartbeats 800000 in
theorem wread1 (w : World) (gw gp cr cx c : Nat) (ra xa : Addr) (ov u0 u1 u2 u3 : Value) (tp : TypeId) (hb : Blk w gw 55 #[.slice (some ra) 1 cr, .int .i64 0, .slice none 0 0, ov]) (hra : w.cell? ra = some (.slice (some xa) 1 cx)) (hrr : ra.block ≠ gw) (hxa : w.cell? xa = some (.int .u8 11))
    (hxx : xa.block ≠ gw) (hp : Blk w gp tp #[u0, u1, u2, u3]) (hne : gp ≠ gw) (hxp : xa.block ≠ gp) :
    Calls Tryz.prog 112 #[.pointer (some ⟨gw, 0, none⟩), .slice (some ⟨gp, 0, none⟩) 4 c] w fun e w' => e = .returned (.tuple #[.int .i64 4, .nilIface]) ∧ Blk w' gp tp #[byteV 0, byteV 0, byteV 0, byteV 1] ∧
      (∃ ad' c', (1 ≤ c' ∧ Blk w' gw 55 #[.slice (some ra) 1 cr, .int .i64 1, .slice (some ad') 1 c', ov]) ∧ w'.cell? ad' = some (.int .u8 11) ∧ w.heap.size ≤ ad'.block) ∧ Keep (fun b => b ≠ gw ∧ b ≠ gp) w w' := by
  have k0 := hb.cell 0
  have k1 := hb.cell 1
  have k2 := hb.cell 2
  have f1 := hb.frozen 1
  have f2 := hb.frozen 2
  have hgw := hb.lt
  have hgp := hp.lt
  have HB := Lib.hid hb
  have HP := Lib.hid hp
  clear hb hp
  go_enter Tryz.func112, Tryz.ntmps112
  go_upto_region 2 with fail
  go_region
  go_upto_region 4 with fail
  go_region
  go_upto_region 6 with fail
  obtain ⟨w0, hw0⟩ : ∃ W, W = w.setCell ⟨gw, 1, none⟩ (.int .i64 1) := ⟨_, rfl⟩
  have hsz : w0.heap.size = w.heap.size := by rw [hw0]; simp [World.setCell]
  have HL := Lib.hid (lit4_own w0 (byteV 0) (byteV 0) (byteV 0) (byteV 1) (by simp [byteV, Value.oneCell']))
  have hB0 : Blk w0 gw 55 #[.slice (some ra) 1 cr, .int .i64 1, .slice none 0 0, ov] := by rw [hw0]; exact HB.out.set_ 1 _
  have hP0 : Blk w0 gp tp #[u0, u1, u2, u3] := by rw [hw0]; exact HP.out.far hne _
  have hK0 : Keep (fun b => b ≠ gw ∧ b ≠ gp) w w0 := by rw [hw0]; exact (Keep.refl _ _).setCell (fun _ ho => ho.1 rfl) _
  have hx0 : w0.cell? xa = some (.int .u8 11) := hK0.cell ⟨hxx, hxp⟩ hxa
  rw [← hw0]
  have HB0 := Lib.hid hB0
  have HP0 := Lib.hid hP0
  have HK0 := Lib.hid hK0
  have HX0 := Lib.hid hx0
  have HSZ := Lib.hid hsz
  clear hB0 hP0 hK0 hx0 hsz hw0 HB HP k0 k1 k2 f1 f2
  go_upto_region 7 with (at_builtin; refine Hid.out ?_)
  refine Lib.hid ?_
  refine wpList_append_RR rfl _ _ _ rfl w0.heap.size 5 (.int .u8 0) 1 Tryz.underlying26 info_u8 rfl (.slice (some ⟨w0.heap.size, 0, none⟩) 4 4) [byteV 0, byteV 0, byteV 0, byteV 1] rfl (by exact HL.out) byteV byteV_one (ok := all_) (some xa) cx [11] rfl (rr_one ((((Below.refl _ w0).alloc (Nat.le_refl _) _).drew.drew.cell (blk_lt_of_cell HX0.out)).trans HX0.out)) (by simp) (by simp) (by simp) ?_
  intro A2 c2 w2 hown2 hg2 hat2
  have hb02 := ((Below.refl _ w0).alloc (Nat.le_refl _) (.cells #[byteV 0, byteV 0, byteV 0, byteV 1] 5)).drew.drew.grown hg2 (by simp) (fun k hk => by have h9 : w0.heap.size = k := (by simpa [Value.ownBlock] using hk); omega)
  have hc5 : 5 ≤ c2 := by
    obtain ⟨A', c', hv, h1, _⟩ := own_form hown2
    injection hv with e1 e2 e3
    simp at h1
    omega
  obtain ⟨ad', rfl, hado, hcc⟩ := (own_RR (l := [0, 0, 0, 1, 11]) hown2 (ok := fun b => w0.heap.size ≤ b) (fun b hb => own_block_lt_ hown2 hb)).addr (by decide)
  have hB2 := (hb02.block gw HB0.out.lt).trans HB0.out
  have hP2 := (hb02.block gp HP0.out.lt).trans HP0.out
  have HBB := Lib.hid hb02
  have HB2 := Lib.hid (show Blk w2 gw _ _ from hB2)
  have HP2 := Lib.hid (show Blk w2 gp _ _ from hP2)
  have k22 := HB2.out.cell 2
  have f22 := HB2.out.frozen 2
  have HCC := Lib.hid hcc
  clear hown2 hg2 hat2 hcc hB2 hP2 hb02
  go_upto_region 7 with fail
  have hlt2 : ad'.block ≠ gw := by have := HB0.out.lt; omega
  have hlt3 : ad'.block ≠ gp := by have := HP0.out.lt; omega
  obtain ⟨w3, hw3⟩ : ∃ W, W = w2.setCell ⟨gw, 2, none⟩ (.slice (some ad') 5 c2) := ⟨_, rfl⟩
  have hB3 : Blk w3 gw 55 #[.slice (some ra) 1 cr, .int .i64 1, .slice (some ad') 5 c2, ov] := by rw [hw3]; exact HB2.out.set_ 2 _
  have hP3 : Blk w3 gp tp #[u0, u1, u2, u3] := by rw [hw3]; exact HP2.out.far hne _
  have hK3 : Keep (fun b => b ≠ gw ∧ b ≠ gp) w w3 := by
    rw [hw3]
    exact (HK0.out.trans (Keep.of_below HBB.out)).setCell (fun _ ho => ho.1 rfl) _
  have hC3 : ∀ i x, [(0 : UInt8), 0, 0, 1, 11][i]? = some x → w3.cell? (ad'.add i) = some (byteV x) := fun i x hi => by
    obtain ⟨v, h1, h2⟩ := HCC.out i x hi
    have h2 : v = byteV x := h2
    subst h2
    rw [hw3]
    exact ((Keep.refl (fun b => b ≠ gw) w2).setCell (p := ⟨gw, 2, none⟩) (fun _ ho => ho rfl) _).cell (by rw [add_block]; exact hlt2) h1
  rw [← hw3]
  have hsl : ∀ W : World, (Instr.slice 26 (.slice (some ad') 5 c2) (some (.int .i64 4)) none none).run Tryz.prog W = .ok (.slice (some (ad'.add 4)) 1 (c2 - 4)) W := fun W => by
    obtain ⟨i0, hi0, _, hsz, _⟩ := info_parts info_u8
    have hel : Tryz.prog.elem 26 = 5 := by simp [Program.elem, Tryz.underlying26]
    have hu : Tryz.prog.underlying 26 = some (.slice (Tryz.prog.elem 26)) := by rw [hel]; exact Tryz.underlying26
    rw [run_slice_l W 26 (some ad') 5 c2 hu .i64 4 (by omega) (by omega), hel]
    have : ¬ c2 = 4 := by omega
    simp [sizeOf, typeInfo, hi0, hsz, sliced, Result.andThen, this]
  obtain ⟨w4, hcp, hP4, hK4⟩ := copy_blk w3 gp 0 4 c ad' 5 c2 #[u0, u1, u2, u3] tp [byteV 0, byteV 0, byteV 0, byteV 1] hP3 rfl (fun j v hj => by
    match j, hj with
    | 0, hj => injection hj with hj; subst hj; exact hC3 0 0 rfl
    | 1, hj => injection hj with hj; subst hj; exact hC3 1 0 rfl
    | 2, hj => injection hj with hj; subst hj; exact hC3 2 0 rfl
    | 3, hj => injection hj with hj; subst hj; exact hC3 3 1 rfl
    | n + 4, hj => simp at hj) (by simp) (by simp [byteV, Value.oneCell'])
  have hcp : (Builtin.copy_ #[26, 26] 3 #[.slice (some ⟨gp, 0, none⟩) 4 c, .slice (some ad') 5 c2]).run Tryz.prog w3 = .ok (.int .i64 4) w4 := hcp
  have hB4 := hB3.keep hK4 (by exact fun e => hne e.symm)
  have h11 : w4.cell? (ad'.add 4) = some (.int .u8 11) := hK4.cell (by rw [add_block]; exact hlt3) (hC3 4 11 rfl)
  have k32 := hB3.cell 2
  have k42 := hB4.cell 2
  have f42 := hB4.frozen 2
  have HB4 := Lib.hid hB4
  have HP4 := Lib.hid hP4
  have HK4 := Lib.hid (hK3.trans (hK4.mono fun b _ ho => ho.2))
  have H11 := Lib.hid h11
  have HLT := Lib.hid (show w.heap.size ≤ ad'.block by have := HSZ.out; omega)
  clear hB3 hP3 hK3 hC3 hB4 hP4 hK4 h11 hw3 HB2 HP2 HBB HCC HK0 HX0 HB0 HP0 HL k22 f22
  go_wp2_with fail
  all_goals
    go_ret2
    exact ⟨rfl, HP4.out.far hne _, ⟨_, ⟨_, by omega, HB4.out.set_ 2 _⟩, ((Keep.refl (fun b => b ≠ gw) w4).setCell (p := ⟨gw, 2, none⟩) (fun _ ho => ho rfl) _).cell (by exact hlt2) H11.out, by exact HLT.out⟩, (HK4.out).setCell (fun _ ho => ho.1 rfl) _⟩

end Go.Proofs.YtmblpmmnglmjfaaGreatDoor
