/- ssh.ZzVersion, impl.VersionRead: the version's line out of bytes. -/
import Derived.Test.YtmblpmmnglmjfaaGreatDoorAgRv
import Derived.Test.YtmblpmmnglmjfaaGreatDoorAgCalm
set_option linter.unusedVariables false
set_option linter.unusedSimpArgs false
namespace Go.Proofs.YtmblpmmnglmjfaaGreatDoor
open Go.RowKit

theorem RR.in_lt1 {α : Type} {enc : α → Value} {ok : Nat → Prop} {w : World} {A : Option Addr} {xs : List α} (h : RR (lit enc) ok w A xs) : RR (lit enc) (fun b => b < w.heap.size) w A xs := fun i x hx => by
  obtain ⟨ad, v, h1, _, h3, h4⟩ := h i x hx
  exact ⟨ad, v, h1, by have := blk_lt_of_cell h3; rwa [add_block] at this, h3, h4⟩
theorem new_reader (A : Option Addr) (n c : Nat) (w : World) : Calls Tryz.prog 16 #[.slice A n c] w fun e w' => e = .returned (.pointer (some ⟨w.heap.size, 0, none⟩)) ∧ w' = w.alloc (.cells #[.slice A n c, .int .i64 0, .int .i64 (-1)] 65) := by
  go_enter Tryz.func16, Tryz.ntmps16
  go_wp2_with fail
  go_ret
  exact ⟨rfl, rfl⟩
theorem zzv_any (w0 : World) (gr c T : Nat) (A : Option Addr) (xs : List UInt8) (v : Value) (h : RdrAt w0 gr A c xs 0 (-1)) (hr : RR (lit byteV) (fun b => b < w0.heap.size ∧ b ≠ gr) w0 A xs) (hl : xs.length ≤ 1000000) (he : w0.cell? ⟨2, 0, none⟩ = some (.iface T v)) (heg : 2 ≠ gr) :
    Calls Tryz.prog 15 #[.iface 48 (.pointer (some ⟨gr, 0, none⟩))] w0 (RvEnd w0 gr (rvP xs [] 0)) := by
  have H := Lib.hid (rv_any w0 gr c T A xs v h hr hl he heg)
  clear h hr he
  go_enter Tryz.func15, Tryz.ntmps15
  go_wp2_with (go_at_call 26; refine H.out.mono ?_; rintro e w1 ⟨hk, ⟨x, A', c', hx, rfl, hlx, hrx⟩ | ⟨hx, T2, v2, rfl⟩⟩)
  · have HK := Lib.hid hk
    have HX := Lib.hid hx
    have HR := Lib.hid hrx
    clear hk hx hrx
    go_wp2_with fail
    go_ret2
    exact ⟨HK.out, .inl ⟨x, A', c', HX.out, rfl, hlx, HR.out⟩⟩
  · have HK := Lib.hid hk
    have HX := Lib.hid hx
    clear hk hx
    go_wp2_with fail
    go_ret2
    exact ⟨HK.out, .inr ⟨HX.out, T2, v2, rfl⟩⟩

/-- What the closure leaves in its two variables. -/
def VcEnd (B : Nat) (w : World) (go ge : Nat) (r : Option (List UInt8)) (w' : World) : Prop :=
  Keep (fun b => b ≠ go ∧ b ≠ ge) w w' ∧ ((∃ v A' c', r = some v ∧ v.length ≤ 1000 ∧ Blk w' go 26 #[.slice A' v.length c'] ∧ Blk w' ge 44 #[.nilIface] ∧ RR (lit byteV) (fun b => B ≤ b) w' A' v) ∨
    (r = none ∧ ∃ T v, Blk w' go 26 #[.slice none 0 0] ∧ Blk w' ge 44 #[.iface T v]))

set_option maxRecDepth 100000 in
set_option maxHeartbeats 1600000 in
theorem vr_clos (w : World) (gd go ge c T : Nat) (A : Option Addr) (xs : List UInt8) (v : Value) (k0 : Blk w gd 26 #[.slice A xs.length c]) (hr : RR (lit byteV) all_ w A xs) (hl : xs.length ≤ 1000000) (k2 : Blk w go 26 #[.slice none 0 0]) (k3 : Blk w ge 44 #[.nilIface]) (he : w.cell? ⟨2, 0, none⟩ = some (.iface T v)) :
    Calls Tryz.prog 14 #[.pointer (some ⟨gd, 0, none⟩), .pointer (some ⟨go, 0, none⟩), .pointer (some ⟨ge, 0, none⟩)] w fun e w' => e = .returned (.tuple #[]) ∧ VcEnd w.heap.size w go ge (rvP xs [] 0) w' := by
  have HO := Lib.hid (news_of (own_new all_ A c xs w (by omega) hr))
  have hne : go ≠ ge := k2.ne_ k3 (by decide)
  have h0 := k0.cell 0
  have K2 := Lib.hid k2
  have K3 := Lib.hid k3
  have HE := Lib.hid he
  clear k0 hr k2 k3 he
  go_enter Tryz.func14, Tryz.ntmps14
  go_wp2_with (first
    | (go_at_call 17; refine HO.out.mono ?_; rintro e w1 ⟨A1, c1, rfl, hown1, hc1, hc1', hb1⟩; have HOW := Lib.hid hown1; have HB1 := Lib.hid hb1; clear hown1 hb1)
    | (go_at_call 16; refine (new_reader _ _ _ _).mono ?_; rintro e w2 ⟨rfl, hw2⟩; have HW2 := Lib.hid hw2; clear hw2)
    | (go_at_call 15; refine Hid.out ?_))
  refine Lib.hid ?_
  have hb2 : Below w1.heap.size w1 w2 := by rw [HW2.out]; exact (Below.refl _ _).alloc (Nat.le_refl _) _
  have hb02 := HB1.out.trans (hb2.mono HB1.out.size)
  have hr1 : RR (lit byteV) (fun b => b < w1.heap.size) w1 A1 xs := (own_RR HOW.out (ok := all_) (fun _ _ => trivial)).in_lt1
  have hr2 : RR (lit byteV) (fun b => b < w2.heap.size ∧ b ≠ w1.heap.size) w2 A1 xs := (hr1.keep (lit_steady _) (Keep.of_below hb2)).mono (lit_steady _) (fun b hb ho => ⟨hb, by omega⟩)
  have hrd : RdrAt w2 w1.heap.size A1 c1 xs 0 (-1) := ⟨by rw [HW2.out]; exact Blk.new _ _ _, hr2.mono (lit_steady _) (fun b _ ho => ho.2), hc1⟩
  have hzw : w.heap.size ≤ w1.heap.size := HB1.out.size
  have hel := blk_lt_of_cell HE.out
  refine (zzv_any w2 w1.heap.size c1 T A1 xs v hrd hr2 hl ((hb02.cell hel).trans HE.out) (by simp at hel ⊢; omega)).mono ?_
  rintro e w3 ⟨hk3, hend⟩
  have hk : Keep all_ w w3 := (Keep.of_below hb02).then hk3 (fun b hb _ => show b ≠ w1.heap.size by omega)
  have k2' : Blk w3 go 26 #[.slice none 0 0] := K2.out.keep hk trivial
  have k3' : Blk w3 ge 44 #[.nilIface] := K3.out.keep hk trivial
  have c2 := k2'.cell 0
  have f2 := k2'.frozen 0
  have c3 := k3'.cell 0
  have f3 := k3'.frozen 0
  have K2' := Lib.hid k2'
  have K3' := Lib.hid k3'
  have HK := Lib.hid hk
  have hz2 : w.heap.size ≤ w2.heap.size := hb02.size
  have hgo := K2.out.lt
  have hge := K3.out.lt
  clear hk k2' k3' hk3 hrd hr2 hr1 hb02 hb2 h0
  rcases hend with ⟨x, A', c', hx, rfl, hlx, hrx⟩ | ⟨hx, T2, v2, rfl⟩
  · have HX := Lib.hid hx
    have HR := Lib.hid hrx
    clear hx hrx
    go_wp2_with fail
    go_end0
    have hkf : Keep (fun b => b ≠ go ∧ b ≠ ge) w3 ((w3.setCell ⟨go, 0, none⟩ (.slice A' x.length c')).setCell ⟨ge, 0, none⟩ .nilIface) := ((Keep.refl _ _).setCell (fun _ ho => ho.1 rfl) _).setCell (fun _ ho => ho.2 rfl) _
    refine ⟨rfl, (HK.out.mono fun _ _ _ => trivial).trans hkf, .inl ⟨x, A', c', HX.out, hlx, ?_, ?_, ?_⟩⟩
    · exact (K2'.out.set_ 0 _).far (by exact hne) _
    · exact (K3'.out.far (by exact fun e => hne e.symm) _).set_ 0 _
    · exact (RR.keep (HR.out.mono (lit_steady _) (fun b _ ho => show b ≠ go ∧ b ≠ ge by omega)) (lit_steady _) hkf).both (RR.move HR.out (lit_steady _) (fun b hb ho => ⟨show w.heap.size ≤ b by omega, hkf.block b hb ⟨by omega, by omega⟩⟩)) |>.mono (lit_steady _) (fun b _ ho => ho.2)
  · have HX := Lib.hid hx
    clear hx
    go_wp2_with fail
    go_end0
    refine ⟨rfl, ((HK.out.mono fun _ _ _ => trivial).setCell (fun _ ho => ho.1 rfl) _).setCell (fun _ ho => ho.2 rfl) _, .inr ⟨HX.out, T2, v2, ?_, ?_⟩⟩
    · exact (K2'.out.set_ 0 _).far (by exact hne) _
    · exact (K3'.out.far (by exact fun e => hne e.symm) _).set_ 0 _

/-- How VersionRead ends. -/
def VrEnd (w : World) (r : Option (List UInt8)) (e : Ending) (w' : World) : Prop :=
  Below w.heap.size w w' ∧ ((∃ v A' c', r = some v ∧ e = .returned (.tuple #[.slice A' v.length c', .bool true]) ∧ RR (lit byteV) all_ w' A' v) ∨ (r = none ∧ e = .returned (.tuple #[.slice none 0 0, .bool false])))
set_option maxRecDepth 100000 in
set_option maxHeartbeats 1600000 in
theorem vr_any (w : World) (c T : Nat) (A : Option Addr) (xs : List UInt8) (v : Value) (hr : RR (lit byteV) all_ w A xs) (hl : xs.length ≤ 10000) (he : w.cell? ⟨2, 0, none⟩ = some (.iface T v)) :
    Calls Tryz.prog 7 #[.slice A xs.length c] w (VrEnd w (rvP xs [] 0)) := by
  obtain ⟨w1, hw1⟩ : ∃ W, W = ((w.alloc (.cells #[.slice A xs.length c] 26)).alloc (.cells #[.slice none 0 0] 26)).alloc (.cells #[.nilIface] 44) := ⟨_, rfl⟩
  have hb1 : Below w.heap.size w w1 := by rw [hw1]; exact (((Below.refl _ _).alloc (Nat.le_refl _) _).alloc (by simp) _).alloc (by simp; omega) _
  have k0 : Blk w1 w.heap.size 26 #[.slice A xs.length c] := by rw [hw1]; exact ((Blk.new _ _ _).alloc _).alloc _
  have k2 : Blk w1 (w.heap.size + 1) 26 #[.slice none 0 0] := by
    rw [hw1]
    have := (Blk.new (w.alloc (.cells #[.slice A xs.length c] 26)) 26 #[.slice none 0 0]).alloc (.cells #[.nilIface] 44)
    simpa using this
  have k3 : Blk w1 (w.heap.size + 2) 44 #[.nilIface] := by
    rw [hw1]
    have := Blk.new ((w.alloc (.cells #[.slice A xs.length c] 26)).alloc (.cells #[.slice none 0 0] 26)) 44 #[.nilIface]
    simpa using this
  have hz1 : w1.heap.size = w.heap.size + 3 := by rw [hw1]; simp
  have hbn : Below w1.heap.size w1 (w1.alloc (.cells #[.bool false] 4)) := (Below.refl _ _).alloc (Nat.le_refl _) _
  have hbt : Below w.heap.size w (w1.alloc (.cells #[.bool false] 4)) := hb1.trans (hbn.mono hb1.size)
  have hcl := vr_clos (w1.alloc (.cells #[.bool false] 4)) w.heap.size (w.heap.size + 1) (w.heap.size + 2) c T A xs v (k0.alloc _) (hr.keep (lit_steady _) (Keep.of_below hbt)) (by omega) (k2.alloc _) (k3.alloc _) ((hbt.cell (blk_lt_of_cell he)).trans he)
  have HC := Lib.hid (calm_walk 14 #[.pointer (some ⟨w.heap.size, 0, none⟩), .pointer (some ⟨w.heap.size + 1, 0, none⟩), .pointer (some ⟨w.heap.size + 2, 0, none⟩)] w1 (fun W => VcEnd (w1.heap.size + 1) w1 (w.heap.size + 1) (w.heap.size + 2) (rvP xs [] 0) W) (fun W => by kernel_rfl)
    (hcl.mono fun e w' ⟨h0, h1, h2⟩ => by
      have hnb := (Blk.new w1 4 #[.bool false]).keep h1 ⟨show w1.heap.size ≠ _ by omega, show w1.heap.size ≠ _ by omega⟩
      refine ⟨h0, hnb.cell 0, hnb.frozen 0, (Keep.of_below hbn).trans h1, ?_⟩
      simpa using h2))
  rw [hw1] at HC
  have hdm : ((300000 : Int) < (xs.length : Int)) = False := eq_false (by omega)
  have HB1 := Lib.hid hb1
  have HZ1 := Lib.hid hz1
  have HW1 := Lib.hid hw1
  clear hw1 hb1 k0 k2 k3 hz1 hbn hcl hr he hbt hl
  go_enter Tryz.func7, Tryz.ntmps7
  go_upto_region 5 with (go_at_call 13; refine Hid.out ?_)
  refine Lib.hid ?_
  refine HC.out.mono ?_
  rw [← HW1.out]
  rintro e w3 ⟨rfl, w2, ⟨hk2, h2⟩, hw3⟩
  have hz1 := HZ1.out
  have hb3 : Below w.heap.size w w3 := by
    rw [hw3]
    exact Keep.below (((Keep.of_below (ok := all_) HB1.out).then hk2 (fun b hb _ => ⟨show b ≠ _ by omega, show b ≠ _ by omega⟩)).setCell (fun h => by have : w1.heap.size < w.heap.size := h; omega) _)
  have HB3 := Lib.hid hb3
  clear hk2 hb3 HC
  rcases h2 with ⟨x, A', c', hx, hlx, k2, k3, hrx⟩ | ⟨hx, T2, v2, k2, k3⟩
  · have k2' : Blk w3 (w.heap.size + 1) 26 #[.slice A' x.length c'] := by rw [hw3]; exact k2.far (by show _ ≠ w1.heap.size; omega) _
    have k3' : Blk w3 (w.heap.size + 2) 44 #[.nilIface] := by rw [hw3]; exact k3.far (by show _ ≠ w1.heap.size; omega) _
    have hr3 : RR (lit byteV) all_ w3 A' x := RR.move hrx (lit_steady _) (fun b hb ho => ⟨trivial, by rw [hw3]; exact Below.heap_setCell _ _ _ _ (by show b ≠ w1.heap.size; omega)⟩)
    have c2 : w3.cell? ⟨w.heap.size + 1, 0, none⟩ = some (.slice A' x.length c') := k2'.cell 0
    have f2 : w3.frozen? ⟨w.heap.size + 1, 0, none⟩ = false := k2'.frozen 0
    have c3 : w3.cell? ⟨w.heap.size + 1 + 1, 0, none⟩ = some .nilIface := k3'.cell 0
    have HX := Lib.hid hx
    have HO := Lib.hid (news_of (own_new all_ A' c' x w3 (by omega) hr3))
    have K2 := Lib.hid k2'
    clear k2 k3 k2' k3' hx hw3 hr3 hrx
    go_wp2_with fail
    refine HO.out.mono ?_
    rintro e w4 ⟨A4, c4, rfl, hown4, hc4, hc4', hb4⟩
    have k4 : Blk w4 (w.heap.size + 1) 26 #[.slice A' x.length c'] := (hb4.block _ K2.out.lt).trans K2.out
    have c4k : w4.cell? ⟨w.heap.size + 1, 0, none⟩ = some (.slice A' x.length c') := k4.cell 0
    have f4k : w4.frozen? ⟨w.heap.size + 1, 0, none⟩ = false := k4.frozen 0
    have HOW := Lib.hid hown4
    have HB4 := Lib.hid hb4
    have K4 := Lib.hid k4
    have hz3 : w.heap.size + 1 < w3.heap.size := K2.out.lt
    clear hown4 hb4 k4
    go_wp2_with fail
    refine bodyPost_ret (v := .tuple #[.slice A4 x.length c4, .bool true]) (by simp [results, Tryz.results7, go_sem, c4k, f4k]) rfl ⟨?_, .inl ⟨x, A4, c4, HX.out, rfl, ?_⟩⟩
    · exact (HB3.out.trans (HB4.out.mono HB3.out.size)).setCell (by show w.heap.size ≤ w.heap.size + 1; omega) _
    · exact ((own_RR HOW.out (ok := fun b => w3.heap.size ≤ b) (fun b hb => own_block_lt_ HOW.out hb)).keep (lit_steady _) ((Keep.refl _ _).setCell (fun _ ho => by have : w3.heap.size ≤ w.heap.size + 1 := ho; omega) _)).mono (lit_steady _) (fun _ _ _ => trivial)
  · have k2' : Blk w3 (w.heap.size + 1) 26 #[.slice none 0 0] := by rw [hw3]; exact k2.far (by show _ ≠ w1.heap.size; omega) _
    have k3' : Blk w3 (w.heap.size + 2) 44 #[.iface T2 v2] := by rw [hw3]; exact k3.far (by show _ ≠ w1.heap.size; omega) _
    have c2 : w3.cell? ⟨w.heap.size + 1, 0, none⟩ = some (.slice none 0 0) := k2'.cell 0
    have f2 : w3.frozen? ⟨w.heap.size + 1, 0, none⟩ = false := k2'.frozen 0
    have c3 : w3.cell? ⟨w.heap.size + 1 + 1, 0, none⟩ = some (.iface T2 v2) := k3'.cell 0
    have HX := Lib.hid hx
    clear k2 k3 k2' k3' hx hw3
    go_wp2_with fail
    refine bodyPost_ret (v := .tuple #[.slice none 0 0, .bool false]) (by simp [results, Tryz.results7, go_sem, c2, f2]) rfl ⟨?_, .inr ⟨HX.out, rfl⟩⟩
    exact HB3.out.setCell (by show w.heap.size ≤ w.heap.size + 1; omega) _

end Go.Proofs.YtmblpmmnglmjfaaGreatDoor
