/- bytes.Reader, read byte by byte by io.ReadFull. -/
import Derived.Test.YtmblpmmnglmjfaaGreatDoorAgRf
import Derived.Test.YtmblpmmnglmjfaaGreatDoorAgWire
set_option linter.unusedVariables false
set_option linter.unusedSimpArgs false
namespace Go.Proofs.YtmblpmmnglmjfaaGreatDoor
open Go.RowKit

/-- A reader over bytes: its block, the place. -/
structure RdrAt (w : World) (gr : Nat) (A : Option Addr) (c : Nat) (xs : List UInt8) (i : Nat) (pr : Int) : Prop where
  blk : Blk w gr 65 #[.slice A xs.length c, .int .i64 (i : Int), .int .i64 pr]
  rr : RR (lit byteV) (fun b => b ≠ gr) w A xs
  lec : xs.length ≤ c
theorem RdrAt.below {w w' : World} {gr : Nat} {A : Option Addr} {c : Nat} {xs : List UInt8} {i : Nat} {pr : Int} (h : RdrAt w gr A c xs i pr) (hb : Below w.heap.size w w') : RdrAt w' gr A c xs i pr :=
  ⟨(hb.block _ h.blk.lt).trans h.blk, h.rr.keep (lit_steady _) (Keep.of_below hb), h.lec⟩

theorem RR.both {α : Type} {P Q : Nat → Prop} {w : World} {A : Option Addr} {xs : List α} {enc : α → Value} (h : RR (lit enc) P w A xs) (k : RR (lit enc) Q w A xs) : RR (lit enc) (fun b => P b ∧ Q b) w A xs := fun i x hx => by
  obtain ⟨ad, v, h1, h2, h3, h4⟩ := h i x hx
  obtain ⟨ad', v', k1, k2, k3, k4⟩ := k i x hx
  obtain rfl : ad = ad' := by rw [h1] at k1; injection k1
  exact ⟨ad, v, h1, ⟨h2, k2⟩, h3, h4⟩
set_option maxRecDepth 100000 in
set_option maxHeartbeats 1600000 in
theorem rread_byte (w : World) (gr gb c i : Nat) (A : Option Addr) (xs : List UInt8) (pr : Int) (x : UInt8) (u : Value) (t : TypeId) (h : RdrAt w gr A c xs i pr) (hx : xs[i]? = some x) (hl : xs.length ≤ 1000000) (hb : Blk w gb t #[u]) (hne : gb ≠ gr) (hbl : RR (lit byteV) (fun b => b ≠ gb) w A xs) :
    Calls Tryz.prog 111 #[.pointer (some ⟨gr, 0, none⟩), .slice (some ⟨gb, 0, none⟩) 1 1] w fun e w' => e = .returned (.tuple #[.int .i64 1, .nilIface]) ∧ Blk w' gb t #[byteV x] ∧ RdrAt w' gr A c xs (i + 1) (-1) ∧ Keep (fun b => b ≠ gr ∧ b ≠ gb) w w' := by
  have hi := (List.getElem?_eq_some_iff.1 hx).1
  have k0 := h.blk.cell 0
  have k1 := h.blk.cell 1
  have d1' : ((xs.length : Int) ≤ (i : Int)) = False := eq_false (by omega)
  have H := Lib.hid h
  have HB := Lib.hid hb
  have HBL := Lib.hid hbl
  have HX := Lib.hid hx
  clear h hb hbl hx
  go_enter Tryz.func111, Tryz.ntmps111
  go_upto_region 1 with fail
  go_quiet (fail)
  obtain ⟨w1, hw1⟩ : ∃ W, W = w.drewN nq := ⟨_, rfl⟩
  have hb1 : Below w.heap.size w w1 := by rw [hw1]; exact ⟨rfl, rfl, rfl, Nat.le_refl _, fun _ _ => rfl⟩
  have hbB1 : Blk w1 gb t #[u] := (hb1.block _ HB.out.lt).trans HB.out
  have h1 := H.out.below hb1
  have hbl1 := HBL.out.keep (lit_steady _) (Keep.of_below hb1)
  rw [← hw1]
  have f2 := h1.blk.frozen 2
  have k2 := h1.blk.cell 2
  have H1 := Lib.hid h1
  have HB1 := Lib.hid hbB1
  have HBL1 := Lib.hid hbl1
  have HBE := Lib.hid hb1
  clear hw1 hb1 hbB1 h1 hbl1 k0 k1
  go_upto_region 4 with fail
  obtain ⟨w2, hw2⟩ : ∃ W, W = w1.setCell ⟨gr, 2, none⟩ (.int .i64 (-1)) := ⟨_, rfl⟩
  have hb2 : Blk w2 gb t #[u] := by rw [hw2]; exact HB1.out.far hne _
  have hr2 : Blk w2 gr 65 #[.slice A xs.length c, .int .i64 (i : Int), .int .i64 (-1)] := by rw [hw2]; exact H1.out.blk.set_ 2 _
  have hx2 : RR (lit byteV) (fun b => b ≠ gr) w2 A xs := by rw [hw2]; exact H1.out.rr.keep (lit_steady _) ((Keep.refl _ _).setCell (fun h => by simp) _)
  have hk2 : Keep (fun b => b ≠ gr ∧ b ≠ gb) w w2 := by rw [hw2]; exact (Keep.of_below HBE.out).setCell (fun _ ho => ho.1 rfl) _
  rw [← hw2]
  have hlec := H1.out.lec
  obtain ⟨i0, hi0, _, hsz, _⟩ := info_parts info_u8
  obtain ⟨A5, ys, hcut, hys, hyl, hcr⟩ := cut_from (P := Tryz.prog) 26 5 .i64 Tryz.underlying26 hi0 hsz A c xs i (by omega) hlec
  have hyx : ys[0]? = some x := by rw [hys.out, List.getElem?_drop, Nat.add_zero]; exact HX.out
  obtain ⟨m, hm⟩ : ∃ m, ys.length = m + 1 := ⟨ys.length - 1, by have := (List.getElem?_eq_some_iff.1 hyx).1; omega⟩
  have hr5 : RR (lit byteV) (fun b => b ≠ gr) w2 A5 ys := hcr _ _ _ hx2
  obtain ⟨ad5, rfl, hado, hc5⟩ := hr5.addr (by omega)
  obtain ⟨v5, hc5, rfl⟩ := hc5 0 x hyx
  obtain ⟨w3, hcp, hb3, hk3⟩ := copy_blk w2.drew gb 0 1 1 ad5 ys.length (c - i) #[u] t [byteV x] hb2.drew (by rw [hm]; simp) (fun j v hj => by
    cases j with
    | zero => injection hj with hj; subst hj; exact hc5
    | succ n => simp at hj) (by simp) (fun v hv => by obtain rfl : v = byteV x := by simpa using hv
                                                      rfl)
  have hcp : (Builtin.copy_ #[26, 26] 3 #[.slice (some ⟨gb, 0, none⟩) 1 1, .slice (some ad5) ys.length (c - i)]).run Tryz.prog w2.drew = .ok (.int .i64 1) w3 := hcp
  have k0 := hr2.cell 0
  have k1 := hr2.cell 1
  have hr3 := hr2.drew.keep hk3 (fun e => hne e.symm)
  have j1 := hr3.cell 1
  have f1 := hr3.frozen 1
  have HR3 := Lib.hid hr3
  have HB3 := Lib.hid hb3
  have HK3 := Lib.hid hk3
  have HK2 := Lib.hid hk2
  have HX2 := Lib.hid hx2
  clear hw2 hb2 hr2 hx2 hk2 hys hyl hcr hyx hr5 hc5 hb3 hk3 hr3 f2 k2 hm
  go_region_law (fail)
  all_goals
    go_wp2_with fail
    go_ret2
    have hKF : Keep (fun b => b ≠ gr ∧ b ≠ gb) w (w3.setCell ⟨gr, 1, none⟩ (.int .i64 ((i + 1 : Nat) : Int))) := ((HK2.out.drew.trans (HK3.out.mono fun b _ ho => ho.2))).setCell (fun _ ho => ho.1 rfl) _
    have e1 : (Value.int .i64 ((i : Int) + 1)) = .int .i64 ((i + 1 : Nat) : Int) := by go_num
    rw [e1]
    refine ⟨rfl, HB3.out.far (by exact hne) _, ⟨HR3.out.set_ 1 _, ?_, hlec⟩, hKF⟩
    exact ((RR.both H.out.rr HBL.out).keep (lit_steady _) hKF).mono (lit_steady _) (fun b _ ho => ho.1)

set_option maxRecDepth 100000 in
set_option maxHeartbeats 1600000 in
theorem rread_eof (w : World) (gr c T n cp : Nat) (A p : Option Addr) (xs : List UInt8) (pr : Int) (v : Value) (h : RdrAt w gr A c xs xs.length pr) (he : w.cell? ⟨2, 0, none⟩ = some (.iface T v)) :
    Calls Tryz.prog 111 #[.pointer (some ⟨gr, 0, none⟩), .slice p n cp] w fun e w' => e = .returned (.tuple #[.int .i64 0, .iface T v]) ∧ Below w.heap.size w w' := by
  have k0 := h.blk.cell 0
  have k1 := h.blk.cell 1
  have HE := Lib.hid he
  clear h he
  go_enter Tryz.func111, Tryz.ntmps111
  go_upto_region 1 with fail
  go_quiet (fail)
  obtain ⟨w1, hw1⟩ : ∃ W, W = w.drewN nq := ⟨_, rfl⟩
  have hb1 : Below w.heap.size w w1 := by rw [hw1]; exact ⟨rfl, rfl, rfl, Nat.le_refl _, fun _ _ => rfl⟩
  have he1 := (hb1.cell (blk_lt_of_cell HE.out)).trans HE.out
  rw [← hw1]
  have HB1 := Lib.hid hb1
  clear hw1 hb1 k0 k1
  go_upto_region 2 with fail
  go_region
  go_wp2_with fail
  go_ret2
  exact ⟨rfl, HB1.out.drew⟩

theorem method_rread (gr : Nat) (W : World) : (method 539 48 (.pointer (some ⟨gr, 0, none⟩)) "Read").run Tryz.prog W = .ok (111, .pointer (some ⟨gr, 0, none⟩)) W := by kernel_rfl
theorem ahead_rread (gr : Nat) (W : World) : (nilAhead 539 48 (.pointer (some ⟨gr, 0, none⟩)) "Read").run Tryz.prog W = .ok (some false) W := by kernel_rfl
theorem call_rread (gr : Nat) (v : Value) (W : World) : (callFunc 111 #[.pointer (some ⟨gr, 0, none⟩), v]).run Tryz.prog W = .ok (.enter 111 #[.pointer (some ⟨gr, 0, none⟩), v]) W := by kernel_rfl
theorem rfull_byte (w : World) (gr gb c i : Nat) (A : Option Addr) (xs : List UInt8) (pr : Int) (x : UInt8) (u : Value) (t : TypeId) (h : RdrAt w gr A c xs i pr) (hx : xs[i]? = some x) (hl : xs.length ≤ 1000000) (hb : Blk w gb t #[u]) (hne : gb ≠ gr) (hbl : RR (lit byteV) (fun b => b ≠ gb) w A xs) :
    Calls Tryz.prog 29 #[.iface 48 (.pointer (some ⟨gr, 0, none⟩)), .slice (some ⟨gb, 0, none⟩) 1 1] w fun e w' => e = .returned (.tuple #[.int .i64 1, .nilIface]) ∧ Blk w' gb t #[byteV x] ∧ RdrAt w' gr A c xs (i + 1) (-1) ∧ Keep (fun b => b ≠ gr ∧ b ≠ gb) w w' :=
  full_ok w 48 111 1 1 _ _ (fun W => Blk W gb t #[byteV x] ∧ RdrAt W gr A c xs (i + 1) (-1) ∧ Keep (fun b => b ≠ gr ∧ b ≠ gb) w W)
    (by decide) (by decide) (by decide) (by decide) (method_rread gr) (ahead_rread gr) (call_rread gr _)
    (fun W W' ⟨h1, h2, h3⟩ hb => ⟨(hb.block _ h1.lt).trans h1, h2.below hb, h3.trans (Keep.of_below hb)⟩)
    (fun W hbw => (rread_byte W gr gb c i A xs pr x u t (h.below hbw) hx hl ((hbw.block _ hb.lt).trans hb) hne (hbl.keep (lit_steady _) (Keep.of_below hbw))).mono
      fun e w' ⟨h0, h1, h2, h3⟩ => ⟨h0, h1, h2, (Keep.of_below hbw).trans h3⟩)
theorem rfull_eof (w : World) (gr c T gb : Nat) (A : Option Addr) (xs : List UInt8) (pr : Int) (v : Value) (h : RdrAt w gr A c xs xs.length pr) (he : w.cell? ⟨2, 0, none⟩ = some (.iface T v)) :
    Calls Tryz.prog 29 #[.iface 48 (.pointer (some ⟨gr, 0, none⟩)), .slice (some ⟨gb, 0, none⟩) 1 1] w fun e w' => e = .returned (.tuple #[.int .i64 0, .iface T v]) ∧ Below w.heap.size w w' :=
  full_err w 48 111 1 1 T _ v _ (fun W => Below w.heap.size w W) (by decide) (by decide) (by decide) (by decide) (method_rread gr) (ahead_rread gr) (call_rread gr _)
    (fun W W' h hb => h.trans (hb.mono h.size))
    (fun W hbw => (rread_eof W gr c T 1 1 A _ xs pr v (h.below hbw) ((hbw.cell (blk_lt_of_cell he)).trans he)).mono fun e w' ⟨h0, h1⟩ => ⟨h0, hbw.trans (h1.mono hbw.size)⟩)

end Go.Proofs.YtmblpmmnglmjfaaGreatDoor
