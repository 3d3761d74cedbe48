/- impl.wire's Write, and agent.ServeAgent at the one request [11]. -/
import Derived.Test.YtmblpmmnglmjfaaGreatDoorAgWire
import Derived.Test.YtmblpmmnglmjfaaGreatDoorAgList
import Derived.Test.YtmblpmmnglmjfaaGreatDoorAgU32
set_option linter.unusedVariables false
set_option linter.unusedSimpArgs false
namespace Go.Proofs.YtmblpmmnglmjfaaGreatDoor
open Go.RowKit

/-- How Write leaves the wire. -/
def WrOut (B gw : Nat) (w : World) (rv at_ lv : Value) (row : Option Nat) (out : List UInt8) (w' : World) : Prop :=
  ∃ A' c', Blk w' gw 55 #[rv, at_, lv, .slice A' out.length c'] ∧ w'.ownsRow B 5 1 (.slice A' out.length c') out.length (out.map byteV) ∧ Keep (fun b => b ≠ gw ∧ row ≠ some b) w w'
set_option maxRecDepth 100000 in
set_option maxHeartbeats 800000 in
theorem wwrite (w : World) (B gw c cp : Nat) (A Ap : Option Addr) (rv at_ lv : Value) (out l : List UInt8) (hb : Blk w gw 55 #[rv, at_, lv, .slice A out.length c]) (hB : B ≤ w.heap.size) (hown : w.ownsRow B 5 1 (.slice A out.length c) out.length (out.map byteV)) (hr : RR (lit byteV) all_ w Ap l) (hl : out.length + l.length ≤ 1000000) :
    Calls Tryz.prog 113 #[.pointer (some ⟨gw, 0, none⟩), .slice Ap l.length cp] w fun e w' => e = .returned (.tuple #[.int .i64 (l.length : Int), .nilIface]) ∧ WrOut B gw w rv at_ lv (Value.slice A out.length c).ownBlock (out ++ l) w' := by
  have k3 := hb.cell 3
  have HB := Lib.hid hb
  have HO := Lib.hid (show w.ownsRow B 5 1 (.slice A out.length c) (out.map byteV).length (out.map byteV) by rw [List.length_map]; exact hown)
  have HR := Lib.hid hr
  have hne := own_ne_blk hown hb (show 5 ≠ 55 by decide)
  clear hb hown hr
  go_enter Tryz.func113, Tryz.ntmps113
  go_wp2_with (at_builtin; refine wpList_append_RR rfl _ _ _ rfl B 5 (.int .u8 0) 1 Tryz.underlying26 info_u8 rfl (.slice A out.length c) (out.map byteV) rfl HO.out byteV byteV_one (ok := all_) Ap cp l rfl HR.out (by simp; omega) (by simp; omega) hB ?_; intro A2 c2 w2 hown2 hg2 hat2; have hb2 := (show Blk w2 gw _ _ from (hg2.block gw HB.out.lt (fun e => hne e.symm)).trans HB.out); have hf2 := hb2.frozen 3; have hk2 := hb2.cell 3; have HB2 := Lib.hid hb2; have HO2 := Lib.hid hown2; have HG2 := Lib.hid hg2; clear hb2 hown2 hg2 hat2)
  have hs : (Value.slice A2 (out.length + l.length) c2) = Value.slice A2 (out ++ l).length c2 := by rw [List.length_append]
  have hown3 : w2.ownsRow B 5 1 (.slice A2 (out ++ l).length c2) (out ++ l).length ((out ++ l).map byteV) := by
    have := HO2.out
    simpa using this
  have hne2 := own_ne_blk hown3 HB2.out (show 5 ≠ 55 by decide)
  have HS := Lib.hid hs
  have HO3 := Lib.hid (own_move_ (w' := w2.setCell ⟨gw, 3, none⟩ (.slice A2 (out ++ l).length c2)) hown3 (fun k hk => Below.heap_setCell _ _ _ _ (fun e => hne2 (by rw [hk, e]))))
  clear hs hown3 hne2
  go_ret2
  refine ⟨rfl, A2, c2, ?_, ?_, ?_⟩
  · rw [HS.out]; exact HB2.out.set_ 3 _
  · rw [HS.out]; exact HO3.out
  · exact ((Keep.refl _ _).grown HG2.out (fun g hg _ ho => ho.2 hg)).setCell (fun _ ho => ho.1 rfl) _

theorem make_one (W : World) : (Instr.makeSlice 26 (.int .u32 1) (.int .u32 1)).run Tryz.prog W = .ok (.slice (some ⟨W.heap.size, 0, none⟩) 1 1) (W.alloc (.cells #[.int .u8 0] 5)) := by
  obtain ⟨i, hi', hz, hs, hb⟩ := info_parts info_u8
  have h := run_make W 26 5 i (.int .u8 0) Tryz.underlying26 hi' hz .u32 .u32 1 1 (by omega) (by omega) (by rw [hb]; omega) (by omega)
  simp only [hs, Nat.mul_one, Value.cells] at h
  rw [show madeCells #[Value.int .u8 0] (Int.toNat 1) = #[.int .u8 0] by kernel_rfl] at h
  exact h
theorem method_read (gw : Nat) (W : World) : (method 539 53 (.pointer (some ⟨gw, 0, none⟩)) "Read").run Tryz.prog W = .ok (112, .pointer (some ⟨gw, 0, none⟩)) W := by kernel_rfl
theorem ahead_read (gw : Nat) (W : World) : (nilAhead 539 53 (.pointer (some ⟨gw, 0, none⟩)) "Read").run Tryz.prog W = .ok (some false) W := by kernel_rfl
theorem call_read (gw : Nat) (v : Value) (W : World) : (callFunc 112 #[.pointer (some ⟨gw, 0, none⟩), v]).run Tryz.prog W = .ok (.enter 112 #[.pointer (some ⟨gw, 0, none⟩), v]) W := by kernel_rfl
theorem method_write (gw : Nat) (W : World) : (method 539 53 (.pointer (some ⟨gw, 0, none⟩)) "Write").run Tryz.prog W = .ok (113, .pointer (some ⟨gw, 0, none⟩)) W := by kernel_rfl
theorem ahead_write (gw : Nat) (W : World) : (nilAhead 539 53 (.pointer (some ⟨gw, 0, none⟩)) "Write").run Tryz.prog W = .ok (some false) W := by kernel_rfl
theorem call_write (gw : Nat) (v : Value) (W : World) : (callFunc 113 #[.pointer (some ⟨gw, 0, none⟩), v]).run Tryz.prog W = .ok (.enter 113 #[.pointer (some ⟨gw, 0, none⟩), v]) W := by kernel_rfl

theorem full_1 (w : World) (gw hl cr cx : Nat) (ra xa : Addr) (ov u0 u1 u2 u3 : Value) (t : TypeId) (hb : Blk w gw 55 #[.slice (some ra) 1 cr, .int .i64 0, .slice none 0 0, ov]) (hra : w.cell? ra = some (.slice (some xa) 1 cx)) (hrr : ra.block ≠ gw) (hxa : w.cell? xa = some (.int .u8 11))
    (hxx : xa.block ≠ gw) (hp : Blk w hl t #[u0, u1, u2, u3]) (hne : hl ≠ gw) (hxp : xa.block ≠ hl) :
    Calls Tryz.prog 29 #[.iface 53 (.pointer (some ⟨gw, 0, none⟩)), .slice (some ⟨hl, 0, none⟩) 4 4] w fun e w' => e = .returned (.tuple #[.int .i64 4, .nilIface]) ∧ ∃ t', Blk w' hl t' #[byteV 0, byteV 0, byteV 0, byteV 1] ∧ (∃ ad' c', (1 ≤ c' ∧ Blk w' gw 55 #[.slice (some ra) 1 cr, .int .i64 1, .slice (some ad') 1 c', ov]) ∧ w'.cell? ad' = some (.int .u8 11) ∧ w.heap.size ≤ ad'.block) ∧ Keep (fun b => b ≠ gw ∧ b ≠ hl) w w' :=
  full_ok w 53 112 4 4 _ _ (fun W => ∃ t', Blk W hl t' #[byteV 0, byteV 0, byteV 0, byteV 1] ∧ (∃ ad' c', (1 ≤ c' ∧ Blk W gw 55 #[.slice (some ra) 1 cr, .int .i64 1, .slice (some ad') 1 c', ov]) ∧ W.cell? ad' = some (.int .u8 11) ∧ w.heap.size ≤ ad'.block) ∧ Keep (fun b => b ≠ gw ∧ b ≠ hl) w W)
    (by decide) (by decide) (by decide) (by decide) (method_read gw) (ahead_read gw) (call_read gw _)
    (fun W W' ⟨t', h1, ⟨ad', c', ⟨hc, h2⟩, h3, h4⟩, h5⟩ hb => ⟨t', (hb.block _ h1.lt).trans h1, ⟨ad', c', ⟨hc, (hb.block _ h2.lt).trans h2⟩, (hb.cell (blk_lt_of_cell h3)).trans h3, h4⟩, h5.trans (Keep.of_below hb)⟩)
    (fun W hbw => (wread1 W gw hl cr cx 4 ra xa ov u0 u1 u2 u3 t ((hbw.block _ hb.lt).trans hb) ((hbw.cell (blk_lt_of_cell hra)).trans hra) hrr ((hbw.cell (blk_lt_of_cell hxa)).trans hxa) hxx ((hbw.block _ hp.lt).trans hp) hne hxp).mono
      fun e w' ⟨h0, h1, ⟨ad', c', h2, h3, h4⟩, h5⟩ => ⟨h0, t, h1, ⟨ad', c', h2, h3, Nat.le_trans hbw.size h4⟩, (Keep.of_below hbw).trans h5⟩)
theorem full_2 (w : World) (gw gp cL : Nat) (ad : Addr) (at_ : Int) (rv ov u : Value) (tp : TypeId) (hb : Blk w gw 55 #[rv, .int .i64 at_, .slice (some ad) 1 cL, ov]) (hp : Blk w gp tp #[u]) (hx : w.cell? ad = some (.int .u8 11)) (hne : gp ≠ gw) (h1 : ad.block ≠ gw) (h2 : ad.block ≠ gp) (hcL : 1 ≤ cL) :
    Calls Tryz.prog 29 #[.iface 53 (.pointer (some ⟨gw, 0, none⟩)), .slice (some ⟨gp, 0, none⟩) 1 1] w fun e w' => e = .returned (.tuple #[.int .i64 1, .nilIface]) ∧ Blk w' gp tp #[.int .u8 11] ∧ (∃ A' c', Blk w' gw 55 #[rv, .int .i64 at_, .slice A' 0 c', ov]) ∧ Keep (fun b => b ≠ gw ∧ b ≠ gp) w w' :=
  full_ok w 53 112 1 1 _ _ (fun W => Blk W gp tp #[.int .u8 11] ∧ (∃ A' c', Blk W gw 55 #[rv, .int .i64 at_, .slice A' 0 c', ov]) ∧ Keep (fun b => b ≠ gw ∧ b ≠ gp) w W)
    (by decide) (by decide) (by decide) (by decide) (method_read gw) (ahead_read gw) (call_read gw _)
    (fun W W' ⟨h1, ⟨A', c', h2⟩, h3⟩ hb => ⟨(hb.block _ h1.lt).trans h1, ⟨A', c', (hb.block _ h2.lt).trans h2⟩, h3.trans (Keep.of_below hb)⟩)
    (fun W hbw => (wread2 W gw gp 1 cL ad at_ rv ov u (.int .u8 11) tp ((hbw.block _ hb.lt).trans hb) ((hbw.block _ hp.lt).trans hp) ((hbw.cell (blk_lt_of_cell hx)).trans hx) hne h1 h2 hcL rfl).mono
      fun e w' ⟨h0, h1, h2, h5⟩ => ⟨h0, h1, h2, (Keep.of_below hbw).trans h5⟩)
theorem full_3 (w : World) (gw cr cL T n c : Nat) (ra p : Addr) (A : Option Addr) (ov v : Value) (hn : 0 < n) (hn2 : n ≤ 1000000) (hc : n ≤ c) (hc2 : c ≤ 9223372036854775807) (hb : Blk w gw 55 #[.slice (some ra) 1 cr, .int .i64 1, .slice A 0 cL, ov]) (he : w.cell? ⟨2, 0, none⟩ = some (.iface T v)) :
    Calls Tryz.prog 29 #[.iface 53 (.pointer (some ⟨gw, 0, none⟩)), .slice (some p) n c] w fun e w' => e = .returned (.tuple #[.int .i64 0, .iface T v]) ∧ Below w.heap.size w w' :=
  full_err w 53 112 n c T _ v p (fun W => Below w.heap.size w W) hn hn2 hc hc2 (method_read gw) (ahead_read gw) (call_read gw _)
    (fun W W' h hb => h.trans (hb.mono h.size))
    (fun W hbw => (wread3 W gw cr cL T n c ra A (some p) ov v ((hbw.block _ hb.lt).trans hb) ((hbw.cell (blk_lt_of_cell he)).trans he)).mono fun e w' ⟨h0, h1⟩ => ⟨h0, hbw.trans (h1.mono hbw.size)⟩)

set_option maxRecDepth 100000 in
set_option maxHeartbeats 1600000 in
theorem serve_11 (w : World) (gk gw cr cx T : Nat) (ra xa : Addr) (v0 v3 v : Value) (hk : Blk w gk 93 #[v0, .slice none 0 0, .bool false, v3]) (hw : Blk w gw 55 #[.slice (some ra) 1 cr, .int .i64 0, .slice none 0 0, .slice none 0 0])
    (hra : w.cell? ra = some (.slice (some xa) 1 cx)) (hrr : ra.block ≠ gw) (hxa : w.cell? xa = some (.int .u8 11)) (hxx : xa.block ≠ gw) (he : w.cell? ⟨2, 0, none⟩ = some (.iface T v)) (heg : 2 ≠ gw) :
    Calls Tryz.prog 22 #[.iface 90 (.pointer (some ⟨gk, 0, none⟩)), .iface 53 (.pointer (some ⟨gw, 0, none⟩))] w fun e w' => (∃ u, e = .returned u) ∧
      (∃ rv at_ lv A c, Blk w' gw 55 #[rv, at_, lv, .slice A 9 c] ∧ w'.ownsRow w.heap.size 5 1 (.slice A 9 c) 9 (([0, 0, 0, 5, 12, 0, 0, 0, 0] : List UInt8).map byteV)) ∧ Keep (but gw) w w' := by
  have hne : w.heap.size + 1 ≠ gw := by have := hw.lt; omega
  have hxl := blk_lt_of_cell hxa
  go_enter Tryz.func22, Tryz.ntmps22
  go_wp2_with fail
  refine wp_loop_rounds 2 ?_
  rw [rounds_succ]
  obtain ⟨w1, hw1⟩ : ∃ W, W = (w.alloc (.cells #[.iface 90 (.pointer (some ⟨gk, 0, none⟩))] 79)).alloc (.cells #[.int .u8 0, .int .u8 0, .int .u8 0, .int .u8 0] 80) := ⟨_, rfl⟩
  have hb1 : Below w.heap.size w w1 := by rw [hw1]; exact ((Below.refl _ _).alloc (Nat.le_refl _) _).alloc (by simp) _
  have hs1 : Blk w1 w.heap.size 79 #[.iface 90 (.pointer (some ⟨gk, 0, none⟩))] := by rw [hw1]; exact (Blk.new _ _ _).alloc _
  have hl1 : Blk w1 (w.heap.size + 1) 80 #[.int .u8 0, .int .u8 0, .int .u8 0, .int .u8 0] := by
    rw [hw1]
    have := Blk.new (w.alloc (.cells #[.iface 90 (.pointer (some ⟨gk, 0, none⟩))] 79)) 80 #[.int .u8 0, .int .u8 0, .int .u8 0, .int .u8 0]
    simpa using this
  have hz1 : w1.heap.size = w.heap.size + 2 := by rw [hw1]; simp
  rw [← hw1]
  have HF1 := Lib.hid (full_1 w1 gw (w.heap.size + 1) cr cx ra xa _ _ _ _ _ _ ((hb1.block _ hw.lt).trans hw) ((hb1.cell (blk_lt_of_cell hra)).trans hra) hrr ((hb1.cell hxl).trans hxa) hxx hl1 hne (by omega))
  have HB1 := Lib.hid hb1
  have HS1 := Lib.hid hs1
  have HZ1 := Lib.hid hz1
  have HK := Lib.hid hk
  have HHE := Lib.hid he
  have HW := Lib.hid hw
  clear hw1 hb1 hs1 hl1 hz1 hk hw he hra hxa
  go_upto_region 6 with (go_at_call 29; refine HF1.out.mono ?_; rintro e w2 ⟨rfl, t2, hl2, ⟨ad', c', ⟨hcL, hw2⟩, hx2, hlt2⟩, hk2⟩; have HL2 := Lib.hid hl2; have HW2 := Lib.hid hw2; have HX2 := Lib.hid hx2; have HK2 := Lib.hid hk2; clear hl2 hw2 hx2 hk2)
  have HU := Lib.hid (show Calls Tryz.prog 30 #[.agg #[], .slice (some ⟨w.heap.size + 1, 0, none⟩) 4 4] w2.drew fun e w' => e = .returned (.int .u32 1) ∧ Below w2.heap.size w2.drew w' from beU32_any all_ (some ⟨w.heap.size + 1, 0, none⟩) 4 [0, 0, 0, 1] w2.drew (by decide) (rr4 (HL2.out.drew)))
  go_region_law (go_simp; go_at_call 30; refine HU.out.mono ?_; rintro e w3 ⟨rfl, hb3⟩; have HB3 := Lib.hid hb3; clear hb3)
  have hmk := make_one w3
  go_upto_region 12 with fail
  obtain ⟨w4, hw4⟩ : ∃ W, W = w3.alloc (.cells #[.int .u8 0] 5) := ⟨_, rfl⟩
  rw [← hw4]
  have hb24 : Below w2.heap.size w2 w4 := by rw [hw4]; exact ((Below.refl _ w2).drew.trans HB3.out).alloc HB3.out.size _
  have hz3 : w2.heap.size ≤ w3.heap.size := HB3.out.size
  have hq4 : Blk w4 w3.heap.size 5 #[.int .u8 0] := by rw [hw4]; exact Blk.new _ _ _
  have hz4 : w4.heap.size = w3.heap.size + 1 := by rw [hw4]; simp
  have hg2 := HW2.out.lt
  have hx2l := blk_lt_of_cell HX2.out
  have hw4' : Blk w4 gw 55 _ := (hb24.block _ hg2).trans HW2.out
  have HF2 := Lib.hid (full_2 w4 gw w3.heap.size c' ad' 1 _ _ _ _ hw4' hq4 ((hb24.cell hx2l).trans HX2.out) (by omega) (by have := HZ1.out; have := HW.out.lt; omega) (by omega) hcL)
  have HB24 := Lib.hid hb24
  have HZ3 := Lib.hid hz3
  have HZ4 := Lib.hid hz4
  clear hmk hw4 hb24 hz3 hq4 hz4 hw4' HF1 HU
  go_upto_region 15 with (go_at_call 29; refine HF2.out.mono ?_; rintro e w5 ⟨rfl, hq5, ⟨A5, c5, hw5⟩, hk5⟩; have HQ5 := Lib.hid hq5; have HW5 := Lib.hid hw5; have HK5 := Lib.hid hk5; clear hq5 hw5 hk5)
  have hgk : gk ≠ gw := HK.out.ne_ HW.out (by decide)
  have hgkl := HK.out.lt
  have hgwl := HW.out.lt
  have K15 : Keep (fun b => b ≠ gw ∧ b ≠ w.heap.size + 1 ∧ b ≠ w3.heap.size) w1 w5 :=
    ((HK2.out.mono fun b _ ho => ⟨ho.1, ho.2.1⟩).trans (Keep.of_below HB24.out)).then HK5.out (fun b _ ho => ⟨ho.1, ho.2.2⟩)
  have hs5 := HS1.out.keep K15 ⟨by omega, by omega, by have := HZ3.out; have := HK2.out.size; have := HZ1.out; omega⟩
  have hk5 := (show Blk w1 gk _ _ from (HB1.out.block gk hgkl).trans HK.out).keep K15 ⟨hgk, by omega, by have := HZ3.out; have := HK2.out.size; have := HZ1.out; omega⟩
  have HP := Lib.hid (bytes_11 w5 w.heap.size gk w3.heap.size 1 v0 v3 _ hs5 hk5 HQ5.out)
  have H15 := Lib.hid K15
  clear K15 hs5 hk5 HF2
  go_upto_region 18 with (go_at_call 32; refine HP.out.mono ?_; rintro e w6 ⟨A6, c6, rfl, hown6, hb6⟩; have HO6 := Lib.hid hown6; have HB6 := Lib.hid hb6; clear hown6 hb6)
  have hz5 : w1.heap.size ≤ w5.heap.size := H15.out.size
  have hl5 : Blk w5 (w.heap.size + 1) t2 _ := ((show Blk w4 _ _ _ from (HB24.out.block _ HL2.out.lt).trans HL2.out)).keep HK5.out ⟨hne, by have := HZ3.out; have := HK2.out.size; have := HZ1.out; omega⟩
  have hl6 : Blk w6 (w.heap.size + 1) t2 _ := (HB6.out.block _ hl5.lt).trans hl5
  have hw6 : Blk w6 gw 55 _ := (HB6.out.block _ HW5.out.lt).trans HW5.out
  have HPU := Lib.hid (show Calls Tryz.prog 33 #[.agg #[], .slice (some ⟨w.heap.size + 1, 0, none⟩) 4 4, .int .u32 5] w6.drew fun e w' => e = .returned (.tuple #[]) ∧ Blk w' (w.heap.size + 1) t2 #[byteV 0, byteV 0, byteV 0, byteV 5] ∧ w6.drew.grownBy w' (some (w.heap.size + 1)) from put32 (w.heap.size + 1) 0 4 4 5 (by decide) (by decide) (by decide) w6.drew t2 _ hl6.drew (by decide))
  have HW6 := Lib.hid hw6
  clear hl5 hl6 hw6
  go_region_law (go_simp; go_at_call 33; refine HPU.out.mono ?_; rintro e w7 ⟨rfl, hl7, hg7⟩; have HL7 := Lib.hid hl7; have HG7 := Lib.hid hg7; clear hl7 hg7)
  go_upto_region 19 with fail
  have hz6 : w5.heap.size ≤ w6.heap.size := HB6.out.size
  have hz7 : w6.heap.size ≤ w7.heap.size := HG7.out.size
  have hw7 : Blk w7 gw 55 _ := (HG7.out.block gw HW6.out.lt (fun e => hne (by injection e with e; exact e.symm))).trans HW6.out
  have HWR := Lib.hid (show Calls Tryz.prog 113 #[.pointer (some ⟨gw, 0, none⟩), .slice (some ⟨w.heap.size + 1, 0, none⟩) 4 4] w7.drew _ from wwrite w7.drew w.heap.size gw 0 4 none (some ⟨w.heap.size + 1, 0, none⟩) _ _ _ [] [0, 0, 0, 5] hw7.drew (by have := HZ1.out; have := HZ3.out; have := HK2.out.size; show w.heap.size ≤ w7.heap.size; omega) ⟨rfl, .inl ⟨rfl, rfl⟩⟩ (rr4 HL7.out.drew) (by decide))
  have hna := ahead_write gw
  have hme := method_write gw
  have hcw := call_write gw (.slice (some ⟨w.heap.size + 1, 0, none⟩) 4 4)
  have hmf : ∀ (fn : Fn) (first cap : Array Value) (w : World), (Instr.makeFunc fn first cap).run Tryz.prog w = .ok (.func fn first cap) w := fun _ _ _ _ => rfl
  clear hw7
  go_region_law (go_simp; refine HWR.out.mono ?_; rintro e w8 ⟨rfl, A8, c8, hw8, hown8, hk8⟩; have HW8 := Lib.hid hw8; have HO8 := Lib.hid hown8; have HK8 := Lib.hid hk8; clear hw8 hown8 hk8)
  go_upto_region 22 with fail
  have hz8 : w7.heap.size ≤ w8.heap.size := HK8.out.size
  have K68 : Keep (fun b => b ≠ gw ∧ b ≠ w.heap.size + 1) w6 w8 := ((Keep.refl _ w6).then (ok2 := fun b => b ≠ w.heap.size + 1) ((Keep.refl _ w6).drew.trans (Keep.of_grown HG7.out (fun h => h rfl))).drew (fun b _ ho => ho.2)).then HK8.out (fun b _ ho => ⟨ho.1, by simp [Value.ownBlock]⟩)
  have hr6 : RR (lit byteV) (fun b => w5.heap.size ≤ b) w6 A6 [12, 0, 0, 0, 0] := own_RR HO6.out (fun b hb => own_block_lt_ HO6.out hb)
  have hgl5 : w.heap.size + 2 ≤ w5.heap.size := by have := HZ1.out; have := H15.out.size; omega
  have hr8 : RR (lit byteV) all_ w8 A6 [12, 0, 0, 0, 0] := RR.move hr6 (lit_steady _) (fun b hb ho => ⟨trivial, K68.block b hb ⟨by omega, by omega⟩⟩)
  have HWR2 := Lib.hid (show Calls Tryz.prog 113 #[.pointer (some ⟨gw, 0, none⟩), .slice A6 5 c6] w8 _ from wwrite w8 w.heap.size gw c8 c6 A8 A6 _ _ _ [0, 0, 0, 5] [12, 0, 0, 0, 0] HW8.out (by omega) HO8.out hr8 (by decide))
  have hcw2 := call_write gw (.slice A6 5 c6)
  have H68 := Lib.hid K68
  clear K68 hr6 hr8 hcw
  go_upto_region 23 with (refine HWR2.out.mono ?_; rintro e w9 ⟨rfl, A9, c9, hw9, hown9, hk9⟩; have HW9 := Lib.hid hw9; have HO9 := Lib.hid hown9; have HK9 := Lib.hid hk9; clear hw9 hown9 hk9)
  have ho8 : ∀ b, b < w.heap.size → (Value.slice A8 4 c8).ownBlock ≠ some b := fun b hb e => by have := own_block_lt_ HO8.out e; omega
  have K19 : Keep (fun b => b ≠ gw ∧ b ≠ w.heap.size + 1 ∧ b ≠ w3.heap.size ∧ (Value.slice A8 4 c8).ownBlock ≠ some b) w1 w9 :=
    (((H15.out.mono fun b _ ho => ⟨ho.1, ho.2.1, ho.2.2.1⟩).trans (Keep.of_below HB6.out)).then H68.out (fun b _ ho => ⟨ho.1, ho.2.1⟩)).then HK9.out (fun b _ ho => ⟨ho.1, ho.2.2.2⟩)
  have hw3s : w.heap.size < w3.heap.size := by have := HZ3.out; have := HK2.out.size; have := HZ1.out; omega
  have hel := blk_lt_of_cell HHE.out
  have he9 : w9.cell? ⟨2, 0, none⟩ = some (.iface T v) := K19.cell ⟨heg, by simp at hel ⊢; omega, by simp at hel ⊢; omega, ho8 _ hel⟩ ((HB1.out.cell hel).trans HHE.out)
  have HF3 := Lib.hid (full_3 w9 gw cr c5 T 4 4 ra ⟨w.heap.size + 1, 0, none⟩ A5 _ v (by decide) (by decide) (by decide) (by decide) HW9.out he9)
  have HKF := Lib.hid ((Keep.of_below (ok := but gw) HB1.out).then K19 (fun b hb ho => ⟨ho, by omega, by omega, ho8 b hb⟩))
  clear K19 he9 HWR2 HWR HPU HP
  go_wp2_with fail
  rw [rounds_succ]
  go_wp2_with (go_at_call 29; refine HF3.out.mono ?_; rintro e w10 ⟨rfl, hb10⟩; have HB10 := Lib.hid hb10; clear hb10)
  go_ret
  exact ⟨⟨_, rfl⟩, ⟨_, _, _, _, _, (HB10.out.block _ HW9.out.lt).trans HW9.out, own_move_ HO9.out (fun k hk => HB10.out.block k (HO9.out.lt k hk).2)⟩, HKF.out.trans (Keep.of_below HB10.out)⟩

end Go.Proofs.YtmblpmmnglmjfaaGreatDoor
