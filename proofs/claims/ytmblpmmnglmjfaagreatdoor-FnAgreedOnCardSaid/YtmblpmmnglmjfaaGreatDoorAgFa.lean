/- ssh.findAgreedAlgorithms: what two ends agree on. Printed by gen_fa.py. -/
import Derived.Test.YtmblpmmnglmjfaaGreatDoorAgAlg
import Derived.Deep.DeepCutAuto
import Derived.Deep.RegionHeld3
set_option linter.unusedVariables false
set_option linter.unusedSimpArgs false
namespace Go.Proofs.YtmblpmmnglmjfaaGreatDoor
open Go.RowKit

/-- One pair of lists at its place in the two messages. -/
structure Pair (w : World) (gc gs : Nat) (i : Nat) (c s : List (List UInt8)) (A B : Option Addr) (a b : Nat) : Prop where
  cc : w.cell? ⟨gc, i, none⟩ = some (.slice A c.length a)
  cs : w.cell? ⟨gs, i, none⟩ = some (.slice B s.length b)
  rc : RR (lit strV) (fun b => b < w.heap.size) w A c
  rs : RR (lit strV) (fun b => b < w.heap.size) w B s
  lc : c.length ≤ 1000
  ls : s.length ≤ 1000
theorem Pair.below {w w' : World} {gc gs i : Nat} {c s : List (List UInt8)} {A B : Option Addr} {a b : Nat} (h : Pair w gc gs i c s A B a b) (hb : Below w.heap.size w w') : Pair w' gc gs i c s A B a b :=
  ⟨(hb.cell (blk_lt_of_cell h.cc)).trans h.cc, (hb.cell (blk_lt_of_cell h.cs)).trans h.cs, (RR.keep h.rc (lit_steady _) (Keep.of_below hb)).mono (lit_steady _) (fun b _ hb' => Nat.lt_of_lt_of_le hb' hb.size), (RR.keep h.rs (lit_steady _) (Keep.of_below hb)).mono (lit_steady _) (fun b _ hb' => Nat.lt_of_lt_of_le hb' hb.size), h.lc, h.ls⟩
theorem Pair.drew_ {w : World} {gc gs i : Nat} {c s : List (List UInt8)} {A B : Option Addr} {a b : Nat} (h : Pair w gc gs i c s A B a b) : Pair w.drew gc gs i c s A B a b := h.below (Below.refl _ _).drew
theorem agree_some {w : World} {gc gs i : Nat} {c s : List (List UInt8)} {A B : Option Addr} {a b : Nat} (h : Pair w gc gs i c s A B a b) {x : List UInt8} (hx : agreeP s c = some x) (what : ByteArray) :
    Calls Tryz.prog 35 #[.string what, .slice A c.length a, .slice B s.length b, .bool true] w fun e w' => e = .returned (.tuple #[.string ⟨x.toArray⟩, .nilIface]) ∧ w' = w :=
  (common_any all_ A B a b c s w h.lc h.ls (h.rc.mono (lit_steady _) (fun _ _ _ => trivial)) (h.rs.mono (lit_steady _) (fun _ _ _ => trivial)) what).mono fun e w' ⟨h1, h2⟩ => by rw [hx] at h2; exact h2
theorem agree_none {w : World} {gc gs i : Nat} {c s : List (List UInt8)} {A B : Option Addr} {a b : Nat} (h : Pair w gc gs i c s A B a b) (hx : agreeP s c = none) (what : ByteArray) :
    Calls Tryz.prog 35 #[.string what, .slice A c.length a, .slice B s.length b, .bool true] w fun e w' => (∃ T v, e = .returned (.tuple #[.string ⟨#[]⟩, .iface T v])) ∧ Below w.heap.size w w' :=
  (common_any all_ A B a b c s w h.lc h.ls (h.rc.mono (lit_steady _) (fun _ _ _ => trivial)) (h.rs.mono (lit_steady _) (fun _ _ _ => trivial)) what).mono fun e w' ⟨h1, h2⟩ => by rw [hx] at h2; exact ⟨h2, h1⟩

/-- The result's block under way. -/
structure St (w wx : World) (cs : Array Value) : Prop where
  blk : Blk wx w.heap.size 74 cs
  hb : Below w.heap.size w wx
theorem St.drew {w wx : World} {cs : Array Value} (h : St w wx cs) : St w wx.drew cs := ⟨h.blk.drew, h.hb.drew⟩
theorem St.put {w wx : World} {cs : Array Value} (h : St w wx cs) (k : Nat) (u : Value) : St w (wx.setCell ⟨w.heap.size, k, none⟩ u) (cs.setIfInBounds k u) := ⟨h.blk.set_ k u, h.hb.setCell (Nat.le_refl _) u⟩
theorem St.below {w wx wy : World} {cs : Array Value} (h : St w wx cs) (hb : Below wx.heap.size wx wy) : St w wy cs := ⟨(hb.block _ h.blk.lt).trans h.blk, h.hb.trans (hb.mono h.hb.size)⟩
/-- What one assignment of the result leaves. -/
def CutR (w : World) (g : Option (List UInt8)) (k : Nat) (cs : Array Value) (s7 : Value) (wx : World) : Prop :=
  (∃ x, g = some x ∧ s7 = .nilIface ∧ St w wx (cs.setIfInBounds k (.string ⟨x.toArray⟩))) ∨ (g = none ∧ (∃ T v, s7 = .iface T v) ∧ Below w.heap.size w wx)

/-- The MAC behind a cipher: none for one that seals. -/
def macP (x : List UInt8) (g : Option (List UInt8)) : Option (List UInt8) := if sealP x then some [] else g
/-- All eight, or not. -/
def allP (g : Nat → Option (List UInt8)) : Bool :=
  (g 0).isSome && (g 1).isSome && (g 2).isSome && (g 3).isSome && (macP ((g 2).getD []) (g 4)).isSome && (macP ((g 3).getD []) (g 5)).isSome && (g 6).isSome && (g 7).isSome
/-- What is agreed on, in the law's order. -/
def wantP (g : Nat → Option (List UInt8)) : Nat → List UInt8
  | 4 => (macP ((g 2).getD []) (g 4)).getD []
  | 5 => (macP ((g 3).getD []) (g 5)).getD []
  | i => (g i).getD []
/-- How findAgreedAlgorithms ends. -/
def FaEnd (w : World) (g : Nat → Option (List UInt8)) (e : Ending) (w' : World) : Prop :=
  Below w.heap.size w w' ∧ ((allP g = true ∧ e = .returned (.tuple #[.pointer (some ⟨w.heap.size, 0, none⟩), .nilIface]) ∧
      Blk w' w.heap.size 74 (#[wantP g 0, wantP g 1, wantP g 3, wantP g 5, wantP g 7, wantP g 2, wantP g 4, wantP g 6].map strV)) ∨
    (allP g = false ∧ ∃ T v, e = .returned (.tuple #[.pointer none, .iface T v])))

theorem kept2 {wx : World} {gc gs g i k : Nat} {vc vs : Value} (h1 : wx.cell? ⟨gc, i, none⟩ = some vc) (h2 : wx.cell? ⟨gs, i, none⟩ = some vs) (n1 : ¬ gc = g) (n2 : ¬ gs = g) (u : Value) :
    (wx.setCell ⟨g, k, none⟩ u).cell? ⟨gc, i, none⟩ = some vc ∧ (wx.setCell ⟨g, k, none⟩ u).cell? ⟨gs, i, none⟩ = some vs :=
  ⟨(World.cell?_of_block (Below.heap_setCell _ _ _ _ n1)).trans h1, (World.cell?_of_block (Below.heap_setCell _ _ _ _ n2)).trans h2⟩
theorem kept2d {wx : World} {gc gs g i k : Nat} {vc vs : Value} (h1 : wx.drew.cell? ⟨gc, i, none⟩ = some vc) (h2 : wx.drew.cell? ⟨gs, i, none⟩ = some vs) (n1 : ¬ gc = g) (n2 : ¬ gs = g) (u : Value) :
    (wx.setCell ⟨g, k, none⟩ u).drew.cell? ⟨gc, i, none⟩ = some vc ∧ (wx.setCell ⟨g, k, none⟩ u).drew.cell? ⟨gs, i, none⟩ = some vs := kept2 (wx := wx) h1 h2 n1 n2 u
set_option maxRecDepth 100000 in
set_option maxHeartbeats 16000000 in
theorem fa_any (w : World) (gc gs : Nat) (A B : Nat → Option Addr) (a b : Nat → Nat) (c s : Nat → List (List UInt8)) (p0 : Pair w gc gs 16 (c 0) (s 0) (A 0) (B 0) (a 0) (b 0)) (p1 : Pair w gc gs 17 (c 1) (s 1) (A 1) (B 1) (a 1) (b 1)) (p2 : Pair w gc gs 18 (c 2) (s 2) (A 2) (B 2) (a 2) (b 2)) (p3 : Pair w gc gs 19 (c 3) (s 3) (A 3) (B 3) (a 3) (b 3)) (p4 : Pair w gc gs 20 (c 4) (s 4) (A 4) (B 4) (a 4) (b 4)) (p5 : Pair w gc gs 21 (c 5) (s 5) (A 5) (B 5) (a 5) (b 5)) (p6 : Pair w gc gs 22 (c 6) (s 6) (A 6) (B 6) (a 6) (b 6)) (p7 : Pair w gc gs 23 (c 7) (s 7) (A 7) (B 7) (a 7) (b 7)) :
    Calls Tryz.prog 27 #[.bool true, .pointer (some ⟨gc, 0, none⟩), .pointer (some ⟨gs, 0, none⟩)] w (FaEnd w fun i => agreeP (s i) (c i)) := by
  obtain ⟨G, hG⟩ : ∃ G : Nat → Option (List UInt8), G = fun i => agreeP (s i) (c i) := ⟨_, rfl⟩
  rw [← hG]
  have P0 := Lib.hid p0
  have P1 := Lib.hid p1
  have P2 := Lib.hid p2
  have P3 := Lib.hid p3
  have P4 := Lib.hid p4
  have P5 := Lib.hid p5
  have P6 := Lib.hid p6
  have P7 := Lib.hid p7
  have hgc := blk_lt_of_cell p0.cc
  have hgs := blk_lt_of_cell p0.cs
  clear p0 p1 p2 p3 p4 p5 p6 p7
  have e7 : ∀ i, G i = agreeP (s i) (c i) := fun i => by rw [hG]
  clear hG
  go_enter Tryz.func27, Tryz.ntmps27
  go_upto_region 2 with fail
  have hst : St w (w.alloc (.cells #[.string ⟨#[]⟩, .string ⟨#[]⟩, .string ⟨#[]⟩, .string ⟨#[]⟩, .string ⟨#[]⟩, .string ⟨#[]⟩, .string ⟨#[]⟩, .string ⟨#[]⟩] 74)) #[.string ⟨#[]⟩, .string ⟨#[]⟩, .string ⟨#[]⟩, .string ⟨#[]⟩, .string ⟨#[]⟩, .string ⟨#[]⟩, .string ⟨#[]⟩, .string ⟨#[]⟩] := ⟨Blk.new _ _ _, (Below.refl _ _).alloc (Nat.le_refl _) _⟩
  generalize w.alloc (.cells #[.string ⟨#[]⟩, .string ⟨#[]⟩, .string ⟨#[]⟩, .string ⟨#[]⟩, .string ⟨#[]⟩, .string ⟨#[]⟩, .string ⟨#[]⟩, .string ⟨#[]⟩] 74) = wc at *
  go_cut [7] (fun s7 wx => CutR w (G 0) 0 #[.string ⟨#[]⟩, .string ⟨#[]⟩, .string ⟨#[]⟩, .string ⟨#[]⟩, .string ⟨#[]⟩, .string ⟨#[]⟩, .string ⟨#[]⟩, .string ⟨#[]⟩] s7 wx)
  case first =>
   as_aux_lemma =>
    have hk := hst.blk.cell 0
    have hf := hst.blk.frozen 0
    have hlt := hst.blk.lt
    have hP := (P0.out).below hst.hb
    have HP := Lib.hid hP.drew_
    have cc := hP.cc
    have cs := hP.cs
    clear hP
    have HST := Lib.hid hst
    clear hst
    have n1 : ¬ gc = w.heap.size := Nat.ne_of_lt hgc
    have n2 : ¬ gs = w.heap.size := Nat.ne_of_lt hgs
    cases hg : G 0 with
    | some x =>
      have HG := Lib.hid hg
      have HA := Lib.hid (fun what => agree_some HP.out ((e7 _).symm.trans HG.out) what)
      clear hg
      have hkk := kept2d (g := w.heap.size) (k := 0) HP.out.cc HP.out.cs n1 n2 (.string ⟨x.toArray⟩)
      go_region_held3 (fun w' => w'.cell? ⟨gc, 16, none⟩ = some (.slice (A 0) (c 0).length (a 0)) ∧ w'.cell? ⟨gs, 16, none⟩ = some (.slice (B 0) (s 0).length (b 0))) (first | go_keep | exact hkk) (first | (go_at_call 35; refine (HA.out _).mono ?_; rintro e w1 ⟨rfl, rfl⟩))
      all_goals
        go_wp2_with fail
        go_meet
        case rel => exact .inl ⟨x, HG.out, rfl, (HST.out.put 0 _).drew⟩
    | none =>
      have HG := Lib.hid hg
      have HA := Lib.hid (fun what => agree_none HP.out ((e7 _).symm.trans HG.out) what)
      clear hg
      go_region_held3 (fun w' => w'.cell? ⟨gc, 16, none⟩ = some (.slice (A 0) (c 0).length (a 0)) ∧ w'.cell? ⟨gs, 16, none⟩ = some (.slice (B 0) (s 0).length (b 0))) (first | go_keep | exact kept2 hcc1 hcs1 n1 n2 _) (first | (go_at_call 35; refine (HA.out _).mono ?_; rintro e w1 ⟨⟨T, v, rfl⟩, hb1⟩; have hc1 := (hb1.cell (p := ⟨w.heap.size, 0, none⟩) hlt).trans hk; have hf1 := (hb1.frozen (p := ⟨w.heap.size, 0, none⟩) hlt).trans hf; have hcc1 := (hb1.cell (p := ⟨gc, 16, none⟩) (blk_lt_of_cell HP.out.cc)).trans HP.out.cc; have hcs1 := (hb1.cell (p := ⟨gs, 16, none⟩) (blk_lt_of_cell HP.out.cs)).trans HP.out.cs; have HB1 := Lib.hid hb1; clear hb1))
      all_goals
        go_wp2_with fail
        go_meet
        case rel => exact .inr ⟨HG.out, ⟨T, v, rfl⟩, ((HST.out.drew.below HB1.out).put 0 _).hb⟩
  case rest =>
  clear hst
  rcases hcut with ⟨x0, hg0, rfl, hst⟩ | ⟨hg0, ⟨T, v, rfl⟩, hbx⟩
  rotate_left
  · have HBX := Lib.hid hbx
    have HAL := Lib.hid (show allP G = false by simp [allP, hg0])
    clear hbx hg0
    go_wp2_with fail
    go_ret2
    exact ⟨HBX.out, .inr ⟨HAL.out, T, v, rfl⟩⟩
  go_upto_region 4 with fail
  go_cut [7] (fun s7 wx => CutR w (G 1) 1 #[.string ⟨x0.toArray⟩, .string ⟨#[]⟩, .string ⟨#[]⟩, .string ⟨#[]⟩, .string ⟨#[]⟩, .string ⟨#[]⟩, .string ⟨#[]⟩, .string ⟨#[]⟩] s7 wx)
  case first =>
   as_aux_lemma =>
    have hk := hst.blk.cell 1
    have hf := hst.blk.frozen 1
    have hlt := hst.blk.lt
    have hP := (P1.out).below hst.hb
    have HP := Lib.hid hP.drew_
    have cc := hP.cc
    have cs := hP.cs
    clear hP
    have HST := Lib.hid hst
    clear hst
    have n1 : ¬ gc = w.heap.size := Nat.ne_of_lt hgc
    have n2 : ¬ gs = w.heap.size := Nat.ne_of_lt hgs
    cases hg : G 1 with
    | some x =>
      have HG := Lib.hid hg
      have HA := Lib.hid (fun what => agree_some HP.out ((e7 _).symm.trans HG.out) what)
      clear hg
      have hkk := kept2d (g := w.heap.size) (k := 1) HP.out.cc HP.out.cs n1 n2 (.string ⟨x.toArray⟩)
      go_region_held3 (fun w' => w'.cell? ⟨gc, 17, none⟩ = some (.slice (A 1) (c 1).length (a 1)) ∧ w'.cell? ⟨gs, 17, none⟩ = some (.slice (B 1) (s 1).length (b 1))) (first | go_keep | exact hkk) (first | (go_at_call 35; refine (HA.out _).mono ?_; rintro e w1 ⟨rfl, rfl⟩))
      all_goals
        go_wp2_with fail
        go_meet
        case rel => exact .inl ⟨x, HG.out, rfl, (HST.out.put 1 _).drew⟩
    | none =>
      have HG := Lib.hid hg
      have HA := Lib.hid (fun what => agree_none HP.out ((e7 _).symm.trans HG.out) what)
      clear hg
      go_region_held3 (fun w' => w'.cell? ⟨gc, 17, none⟩ = some (.slice (A 1) (c 1).length (a 1)) ∧ w'.cell? ⟨gs, 17, none⟩ = some (.slice (B 1) (s 1).length (b 1))) (first | go_keep | exact kept2 hcc1 hcs1 n1 n2 _) (first | (go_at_call 35; refine (HA.out _).mono ?_; rintro e w1 ⟨⟨T, v, rfl⟩, hb1⟩; have hc1 := (hb1.cell (p := ⟨w.heap.size, 1, none⟩) hlt).trans hk; have hf1 := (hb1.frozen (p := ⟨w.heap.size, 1, none⟩) hlt).trans hf; have hcc1 := (hb1.cell (p := ⟨gc, 17, none⟩) (blk_lt_of_cell HP.out.cc)).trans HP.out.cc; have hcs1 := (hb1.cell (p := ⟨gs, 17, none⟩) (blk_lt_of_cell HP.out.cs)).trans HP.out.cs; have HB1 := Lib.hid hb1; clear hb1))
      all_goals
        go_wp2_with fail
        go_meet
        case rel => exact .inr ⟨HG.out, ⟨T, v, rfl⟩, ((HST.out.drew.below HB1.out).put 1 _).hb⟩
  case rest =>
  clear hst
  rcases hcut with ⟨x1, hg1, rfl, hst⟩ | ⟨hg1, ⟨T, v, rfl⟩, hbx⟩
  rotate_left
  · have HBX := Lib.hid hbx
    have HAL := Lib.hid (show allP G = false by simp [allP, hg0, hg1])
    clear hbx hg1
    go_wp2_with fail
    go_ret2
    exact ⟨HBX.out, .inr ⟨HAL.out, T, v, rfl⟩⟩
  go_upto_region 6 with fail
  go_region
  go_upto_region 9 with fail
  replace hst := hst.drew
  generalize wc.drew = wd at hst ⊢
  go_cut [7] (fun s7 wx => CutR w (G 2) 5 #[.string ⟨x0.toArray⟩, .string ⟨x1.toArray⟩, .string ⟨#[]⟩, .string ⟨#[]⟩, .string ⟨#[]⟩, .string ⟨#[]⟩, .string ⟨#[]⟩, .string ⟨#[]⟩] s7 wx)
  case first =>
   as_aux_lemma =>
    have hk := hst.blk.cell 5
    have hf := hst.blk.frozen 5
    have hlt := hst.blk.lt
    have hP := (P2.out).below hst.hb
    have HP := Lib.hid hP.drew_
    have cc := hP.cc
    have cs := hP.cs
    clear hP
    have HST := Lib.hid hst
    clear hst
    have n1 : ¬ gc = w.heap.size := Nat.ne_of_lt hgc
    have n2 : ¬ gs = w.heap.size := Nat.ne_of_lt hgs
    cases hg : G 2 with
    | some x =>
      have HG := Lib.hid hg
      have HA := Lib.hid (fun what => agree_some HP.out ((e7 _).symm.trans HG.out) what)
      clear hg
      have hkk := kept2d (g := w.heap.size) (k := 5) HP.out.cc HP.out.cs n1 n2 (.string ⟨x.toArray⟩)
      go_region_held3 (fun w' => w'.cell? ⟨gc, 18, none⟩ = some (.slice (A 2) (c 2).length (a 2)) ∧ w'.cell? ⟨gs, 18, none⟩ = some (.slice (B 2) (s 2).length (b 2))) (first | go_keep | exact hkk) (first | (go_at_call 35; refine (HA.out _).mono ?_; rintro e w1 ⟨rfl, rfl⟩))
      all_goals
        go_wp2_with fail
        go_meet
        case rel => exact .inl ⟨x, HG.out, rfl, (HST.out.put 5 _).drew⟩
    | none =>
      have HG := Lib.hid hg
      have HA := Lib.hid (fun what => agree_none HP.out ((e7 _).symm.trans HG.out) what)
      clear hg
      go_region_held3 (fun w' => w'.cell? ⟨gc, 18, none⟩ = some (.slice (A 2) (c 2).length (a 2)) ∧ w'.cell? ⟨gs, 18, none⟩ = some (.slice (B 2) (s 2).length (b 2))) (first | go_keep | exact kept2 hcc1 hcs1 n1 n2 _) (first | (go_at_call 35; refine (HA.out _).mono ?_; rintro e w1 ⟨⟨T, v, rfl⟩, hb1⟩; have hc1 := (hb1.cell (p := ⟨w.heap.size, 5, none⟩) hlt).trans hk; have hf1 := (hb1.frozen (p := ⟨w.heap.size, 5, none⟩) hlt).trans hf; have hcc1 := (hb1.cell (p := ⟨gc, 18, none⟩) (blk_lt_of_cell HP.out.cc)).trans HP.out.cc; have hcs1 := (hb1.cell (p := ⟨gs, 18, none⟩) (blk_lt_of_cell HP.out.cs)).trans HP.out.cs; have HB1 := Lib.hid hb1; clear hb1))
      all_goals
        go_wp2_with fail
        go_meet
        case rel => exact .inr ⟨HG.out, ⟨T, v, rfl⟩, ((HST.out.drew.below HB1.out).put 5 _).hb⟩
  case rest =>
  clear hst
  rcases hcut with ⟨x2, hg2, rfl, hst⟩ | ⟨hg2, ⟨T, v, rfl⟩, hbx⟩
  rotate_left
  · have HBX := Lib.hid hbx
    have HAL := Lib.hid (show allP G = false by simp [allP, hg0, hg1, hg2])
    clear hbx hg2
    go_wp2_with fail
    go_ret2
    exact ⟨HBX.out, .inr ⟨HAL.out, T, v, rfl⟩⟩
  go_upto_region 11 with fail
  go_cut [7] (fun s7 wx => CutR w (G 3) 2 #[.string ⟨x0.toArray⟩, .string ⟨x1.toArray⟩, .string ⟨#[]⟩, .string ⟨#[]⟩, .string ⟨#[]⟩, .string ⟨x2.toArray⟩, .string ⟨#[]⟩, .string ⟨#[]⟩] s7 wx)
  case first =>
   as_aux_lemma =>
    have hk := hst.blk.cell 2
    have hf := hst.blk.frozen 2
    have hlt := hst.blk.lt
    have hP := (P3.out).below hst.hb
    have HP := Lib.hid hP.drew_
    have cc := hP.cc
    have cs := hP.cs
    clear hP
    have HST := Lib.hid hst
    clear hst
    have n1 : ¬ gc = w.heap.size := Nat.ne_of_lt hgc
    have n2 : ¬ gs = w.heap.size := Nat.ne_of_lt hgs
    cases hg : G 3 with
    | some x =>
      have HG := Lib.hid hg
      have HA := Lib.hid (fun what => agree_some HP.out ((e7 _).symm.trans HG.out) what)
      clear hg
      have hkk := kept2d (g := w.heap.size) (k := 2) HP.out.cc HP.out.cs n1 n2 (.string ⟨x.toArray⟩)
      go_region_held3 (fun w' => w'.cell? ⟨gc, 19, none⟩ = some (.slice (A 3) (c 3).length (a 3)) ∧ w'.cell? ⟨gs, 19, none⟩ = some (.slice (B 3) (s 3).length (b 3))) (first | go_keep | exact hkk) (first | (go_at_call 35; refine (HA.out _).mono ?_; rintro e w1 ⟨rfl, rfl⟩))
      all_goals
        go_wp2_with fail
        go_meet
        case rel => exact .inl ⟨x, HG.out, rfl, (HST.out.put 2 _).drew⟩
    | none =>
      have HG := Lib.hid hg
      have HA := Lib.hid (fun what => agree_none HP.out ((e7 _).symm.trans HG.out) what)
      clear hg
      go_region_held3 (fun w' => w'.cell? ⟨gc, 19, none⟩ = some (.slice (A 3) (c 3).length (a 3)) ∧ w'.cell? ⟨gs, 19, none⟩ = some (.slice (B 3) (s 3).length (b 3))) (first | go_keep | exact kept2 hcc1 hcs1 n1 n2 _) (first | (go_at_call 35; refine (HA.out _).mono ?_; rintro e w1 ⟨⟨T, v, rfl⟩, hb1⟩; have hc1 := (hb1.cell (p := ⟨w.heap.size, 2, none⟩) hlt).trans hk; have hf1 := (hb1.frozen (p := ⟨w.heap.size, 2, none⟩) hlt).trans hf; have hcc1 := (hb1.cell (p := ⟨gc, 19, none⟩) (blk_lt_of_cell HP.out.cc)).trans HP.out.cc; have hcs1 := (hb1.cell (p := ⟨gs, 19, none⟩) (blk_lt_of_cell HP.out.cs)).trans HP.out.cs; have HB1 := Lib.hid hb1; clear hb1))
      all_goals
        go_wp2_with fail
        go_meet
        case rel => exact .inr ⟨HG.out, ⟨T, v, rfl⟩, ((HST.out.drew.below HB1.out).put 2 _).hb⟩
  case rest =>
  clear hst
  rcases hcut with ⟨x3, hg3, rfl, hst⟩ | ⟨hg3, ⟨T, v, rfl⟩, hbx⟩
  rotate_left
  · have HBX := Lib.hid hbx
    have HAL := Lib.hid (show allP G = false by simp [allP, hg0, hg1, hg2, hg3])
    clear hbx hg3
    go_wp2_with fail
    go_ret2
    exact ⟨HBX.out, .inr ⟨HAL.out, T, v, rfl⟩⟩
  have hkc := hst.blk.cell 5
  go_upto_if 99 with (go_at_call 36; refine (aead_any _ _).mono ?_; rintro e w1 ⟨rfl, rfl⟩)
  clear hkc
  go_cut [7] (fun s7 wx => ∃ y, macP x2 (G 4) = some y ∧ s7 = .nilIface ∧ St w wx (#[.string ⟨x0.toArray⟩, .string ⟨x1.toArray⟩, .string ⟨x3.toArray⟩, .string ⟨#[]⟩, .string ⟨#[]⟩, .string ⟨x2.toArray⟩, .string ⟨#[]⟩, .string ⟨#[]⟩].setIfInBounds 6 (.string ⟨y.toArray⟩)))
  case first =>
   as_aux_lemma =>
    cases hs : sealP x2 with
    | true =>
      have HSE := Lib.hid hs
      have HST := Lib.hid hst
      clear hs hst
      go_wp2_with fail
      go_meet
      case rel => exact ⟨[], by simp [macP, HSE.out], rfl, HST.out⟩
    | false =>
      have HSE := Lib.hid hs
      clear hs
      go_upto_region 14 with fail
      have hk := hst.blk.cell 6
      have hf := hst.blk.frozen 6
      have hlt := hst.blk.lt
      have hP := (P4.out).below hst.hb
      have HP := Lib.hid hP.drew_
      have cc := hP.cc
      have cs := hP.cs
      clear hP
      have HST := Lib.hid hst
      clear hst
      have n1 : ¬ gc = w.heap.size := Nat.ne_of_lt hgc
      have n2 : ¬ gs = w.heap.size := Nat.ne_of_lt hgs
      cases hg : G 4 with
      | some x =>
        have HG := Lib.hid hg
        have HA := Lib.hid (fun what => agree_some HP.out ((e7 _).symm.trans HG.out) what)
        clear hg
        have hkk := kept2d (g := w.heap.size) (k := 6) HP.out.cc HP.out.cs n1 n2 (.string ⟨x.toArray⟩)
        go_region_held3 (fun w' => w'.cell? ⟨gc, 20, none⟩ = some (.slice (A 4) (c 4).length (a 4)) ∧ w'.cell? ⟨gs, 20, none⟩ = some (.slice (B 4) (s 4).length (b 4))) (first | go_keep | exact hkk) (first | (go_at_call 35; refine (HA.out _).mono ?_; rintro e w1 ⟨rfl, rfl⟩))
        all_goals
          go_wp2_with fail
          go_meet
          case rel => exact ⟨x, by simp [macP, HSE.out, HG.out], rfl, (HST.out.put 6 _).drew⟩
      | none =>
        have HG := Lib.hid hg
        have HA := Lib.hid (fun what => agree_none HP.out ((e7 _).symm.trans HG.out) what)
        have HAL := Lib.hid (show allP G = false by simp [allP, macP, HSE.out, hg0, hg1, hg2, hg3, hg])
        clear hg
        go_region_held3 (fun w' => w'.cell? ⟨gc, 20, none⟩ = some (.slice (A 4) (c 4).length (a 4)) ∧ w'.cell? ⟨gs, 20, none⟩ = some (.slice (B 4) (s 4).length (b 4))) (first | go_keep | exact kept2 hcc1 hcs1 n1 n2 _) (first | (go_at_call 35; refine (HA.out _).mono ?_; rintro e w1 ⟨⟨T, v, rfl⟩, hb1⟩; have hc1 := (hb1.cell (p := ⟨w.heap.size, 6, none⟩) hlt).trans hk; have hf1 := (hb1.frozen (p := ⟨w.heap.size, 6, none⟩) hlt).trans hf; have hcc1 := (hb1.cell (p := ⟨gc, 20, none⟩) (blk_lt_of_cell HP.out.cc)).trans HP.out.cc; have hcs1 := (hb1.cell (p := ⟨gs, 20, none⟩) (blk_lt_of_cell HP.out.cs)).trans HP.out.cs; have HB1 := Lib.hid hb1; clear hb1))
        all_goals
          go_wp2_with fail
          go_ret2
          exact ⟨((HST.out.drew.below HB1.out).put 6 _).hb, .inr ⟨HAL.out, T, v, rfl⟩⟩
  case rest =>
  clear hst
  obtain ⟨x4, hg4, rfl, hst⟩ := hcut
  have hkc := hst.blk.cell 2
  go_upto_if 123 with (go_at_call 36; refine (aead_any _ _).mono ?_; rintro e w1 ⟨rfl, rfl⟩)
  clear hkc
  go_cut [7] (fun s7 wx => ∃ y, macP x3 (G 5) = some y ∧ s7 = .nilIface ∧ St w wx (#[.string ⟨x0.toArray⟩, .string ⟨x1.toArray⟩, .string ⟨x3.toArray⟩, .string ⟨#[]⟩, .string ⟨#[]⟩, .string ⟨x2.toArray⟩, .string ⟨x4.toArray⟩, .string ⟨#[]⟩].setIfInBounds 3 (.string ⟨y.toArray⟩)))
  case first =>
   as_aux_lemma =>
    cases hs : sealP x3 with
    | true =>
      have HSE := Lib.hid hs
      have HST := Lib.hid hst
      clear hs hst
      go_wp2_with fail
      go_meet
      case rel => exact ⟨[], by simp [macP, HSE.out], rfl, HST.out⟩
    | false =>
      have HSE := Lib.hid hs
      clear hs
      go_upto_region 17 with fail
      have hk := hst.blk.cell 3
      have hf := hst.blk.frozen 3
      have hlt := hst.blk.lt
      have hP := (P5.out).below hst.hb
      have HP := Lib.hid hP.drew_
      have cc := hP.cc
      have cs := hP.cs
      clear hP
      have HST := Lib.hid hst
      clear hst
      have n1 : ¬ gc = w.heap.size := Nat.ne_of_lt hgc
      have n2 : ¬ gs = w.heap.size := Nat.ne_of_lt hgs
      cases hg : G 5 with
      | some x =>
        have HG := Lib.hid hg
        have HA := Lib.hid (fun what => agree_some HP.out ((e7 _).symm.trans HG.out) what)
        clear hg
        have hkk := kept2d (g := w.heap.size) (k := 3) HP.out.cc HP.out.cs n1 n2 (.string ⟨x.toArray⟩)
        go_region_held3 (fun w' => w'.cell? ⟨gc, 21, none⟩ = some (.slice (A 5) (c 5).length (a 5)) ∧ w'.cell? ⟨gs, 21, none⟩ = some (.slice (B 5) (s 5).length (b 5))) (first | go_keep | exact hkk) (first | (go_at_call 35; refine (HA.out _).mono ?_; rintro e w1 ⟨rfl, rfl⟩))
        all_goals
          go_wp2_with fail
          go_meet
          case rel => exact ⟨x, by simp [macP, HSE.out, HG.out], rfl, (HST.out.put 3 _).drew⟩
      | none =>
        have HG := Lib.hid hg
        have HA := Lib.hid (fun what => agree_none HP.out ((e7 _).symm.trans HG.out) what)
        have HAL := Lib.hid (show allP G = false by simp [allP, macP, HSE.out, hg0, hg1, hg2, hg3, hg4, hg])
        clear hg
        go_region_held3 (fun w' => w'.cell? ⟨gc, 21, none⟩ = some (.slice (A 5) (c 5).length (a 5)) ∧ w'.cell? ⟨gs, 21, none⟩ = some (.slice (B 5) (s 5).length (b 5))) (first | go_keep | exact kept2 hcc1 hcs1 n1 n2 _) (first | (go_at_call 35; refine (HA.out _).mono ?_; rintro e w1 ⟨⟨T, v, rfl⟩, hb1⟩; have hc1 := (hb1.cell (p := ⟨w.heap.size, 3, none⟩) hlt).trans hk; have hf1 := (hb1.frozen (p := ⟨w.heap.size, 3, none⟩) hlt).trans hf; have hcc1 := (hb1.cell (p := ⟨gc, 21, none⟩) (blk_lt_of_cell HP.out.cc)).trans HP.out.cc; have hcs1 := (hb1.cell (p := ⟨gs, 21, none⟩) (blk_lt_of_cell HP.out.cs)).trans HP.out.cs; have HB1 := Lib.hid hb1; clear hb1))
        all_goals
          go_wp2_with fail
          go_ret2
          exact ⟨((HST.out.drew.below HB1.out).put 3 _).hb, .inr ⟨HAL.out, T, v, rfl⟩⟩
  case rest =>
  clear hst
  obtain ⟨x5, hg5, rfl, hst⟩ := hcut
  go_upto_region 19 with fail
  go_cut [7] (fun s7 wx => CutR w (G 6) 7 #[.string ⟨x0.toArray⟩, .string ⟨x1.toArray⟩, .string ⟨x3.toArray⟩, .string ⟨x5.toArray⟩, .string ⟨#[]⟩, .string ⟨x2.toArray⟩, .string ⟨x4.toArray⟩, .string ⟨#[]⟩] s7 wx)
  case first =>
   as_aux_lemma =>
    have hk := hst.blk.cell 7
    have hf := hst.blk.frozen 7
    have hlt := hst.blk.lt
    have hP := (P6.out).below hst.hb
    have HP := Lib.hid hP.drew_
    have cc := hP.cc
    have cs := hP.cs
    clear hP
    have HST := Lib.hid hst
    clear hst
    have n1 : ¬ gc = w.heap.size := Nat.ne_of_lt hgc
    have n2 : ¬ gs = w.heap.size := Nat.ne_of_lt hgs
    cases hg : G 6 with
    | some x =>
      have HG := Lib.hid hg
      have HA := Lib.hid (fun what => agree_some HP.out ((e7 _).symm.trans HG.out) what)
      clear hg
      have hkk := kept2d (g := w.heap.size) (k := 7) HP.out.cc HP.out.cs n1 n2 (.string ⟨x.toArray⟩)
      go_region_held3 (fun w' => w'.cell? ⟨gc, 22, none⟩ = some (.slice (A 6) (c 6).length (a 6)) ∧ w'.cell? ⟨gs, 22, none⟩ = some (.slice (B 6) (s 6).length (b 6))) (first | go_keep | exact hkk) (first | (go_at_call 35; refine (HA.out _).mono ?_; rintro e w1 ⟨rfl, rfl⟩))
      all_goals
        go_wp2_with fail
        go_meet
        case rel => exact .inl ⟨x, HG.out, rfl, (HST.out.put 7 _).drew⟩
    | none =>
      have HG := Lib.hid hg
      have HA := Lib.hid (fun what => agree_none HP.out ((e7 _).symm.trans HG.out) what)
      clear hg
      go_region_held3 (fun w' => w'.cell? ⟨gc, 22, none⟩ = some (.slice (A 6) (c 6).length (a 6)) ∧ w'.cell? ⟨gs, 22, none⟩ = some (.slice (B 6) (s 6).length (b 6))) (first | go_keep | exact kept2 hcc1 hcs1 n1 n2 _) (first | (go_at_call 35; refine (HA.out _).mono ?_; rintro e w1 ⟨⟨T, v, rfl⟩, hb1⟩; have hc1 := (hb1.cell (p := ⟨w.heap.size, 7, none⟩) hlt).trans hk; have hf1 := (hb1.frozen (p := ⟨w.heap.size, 7, none⟩) hlt).trans hf; have hcc1 := (hb1.cell (p := ⟨gc, 22, none⟩) (blk_lt_of_cell HP.out.cc)).trans HP.out.cc; have hcs1 := (hb1.cell (p := ⟨gs, 22, none⟩) (blk_lt_of_cell HP.out.cs)).trans HP.out.cs; have HB1 := Lib.hid hb1; clear hb1))
      all_goals
        go_wp2_with fail
        go_meet
        case rel => exact .inr ⟨HG.out, ⟨T, v, rfl⟩, ((HST.out.drew.below HB1.out).put 7 _).hb⟩
  case rest =>
  clear hst
  rcases hcut with ⟨x6, hg6, rfl, hst⟩ | ⟨hg6, ⟨T, v, rfl⟩, hbx⟩
  rotate_left
  · have HBX := Lib.hid hbx
    have HAL := Lib.hid (show allP G = false by simp [allP, hg0, hg1, hg2, hg3, hg4, hg5, hg6])
    clear hbx hg6
    go_wp2_with fail
    go_ret2
    exact ⟨HBX.out, .inr ⟨HAL.out, T, v, rfl⟩⟩
  go_upto_region 21 with fail
  go_cut [7] (fun s7 wx => CutR w (G 7) 4 #[.string ⟨x0.toArray⟩, .string ⟨x1.toArray⟩, .string ⟨x3.toArray⟩, .string ⟨x5.toArray⟩, .string ⟨#[]⟩, .string ⟨x2.toArray⟩, .string ⟨x4.toArray⟩, .string ⟨x6.toArray⟩] s7 wx)
  case first =>
   as_aux_lemma =>
    have hk := hst.blk.cell 4
    have hf := hst.blk.frozen 4
    have hlt := hst.blk.lt
    have hP := (P7.out).below hst.hb
    have HP := Lib.hid hP.drew_
    have cc := hP.cc
    have cs := hP.cs
    clear hP
    have HST := Lib.hid hst
    clear hst
    have n1 : ¬ gc = w.heap.size := Nat.ne_of_lt hgc
    have n2 : ¬ gs = w.heap.size := Nat.ne_of_lt hgs
    cases hg : G 7 with
    | some x =>
      have HG := Lib.hid hg
      have HA := Lib.hid (fun what => agree_some HP.out ((e7 _).symm.trans HG.out) what)
      clear hg
      have hkk := kept2d (g := w.heap.size) (k := 4) HP.out.cc HP.out.cs n1 n2 (.string ⟨x.toArray⟩)
      go_region_held3 (fun w' => w'.cell? ⟨gc, 23, none⟩ = some (.slice (A 7) (c 7).length (a 7)) ∧ w'.cell? ⟨gs, 23, none⟩ = some (.slice (B 7) (s 7).length (b 7))) (first | go_keep | exact hkk) (first | (go_at_call 35; refine (HA.out _).mono ?_; rintro e w1 ⟨rfl, rfl⟩))
      all_goals
        go_wp2_with fail
        go_meet
        case rel => exact .inl ⟨x, HG.out, rfl, (HST.out.put 4 _).drew⟩
    | none =>
      have HG := Lib.hid hg
      have HA := Lib.hid (fun what => agree_none HP.out ((e7 _).symm.trans HG.out) what)
      clear hg
      go_region_held3 (fun w' => w'.cell? ⟨gc, 23, none⟩ = some (.slice (A 7) (c 7).length (a 7)) ∧ w'.cell? ⟨gs, 23, none⟩ = some (.slice (B 7) (s 7).length (b 7))) (first | go_keep | exact kept2 hcc1 hcs1 n1 n2 _) (first | (go_at_call 35; refine (HA.out _).mono ?_; rintro e w1 ⟨⟨T, v, rfl⟩, hb1⟩; have hc1 := (hb1.cell (p := ⟨w.heap.size, 4, none⟩) hlt).trans hk; have hf1 := (hb1.frozen (p := ⟨w.heap.size, 4, none⟩) hlt).trans hf; have hcc1 := (hb1.cell (p := ⟨gc, 23, none⟩) (blk_lt_of_cell HP.out.cc)).trans HP.out.cc; have hcs1 := (hb1.cell (p := ⟨gs, 23, none⟩) (blk_lt_of_cell HP.out.cs)).trans HP.out.cs; have HB1 := Lib.hid hb1; clear hb1))
      all_goals
        go_wp2_with fail
        go_meet
        case rel => exact .inr ⟨HG.out, ⟨T, v, rfl⟩, ((HST.out.drew.below HB1.out).put 4 _).hb⟩
  case rest =>
  clear hst
  rcases hcut with ⟨x7, hg7, rfl, hst⟩ | ⟨hg7, ⟨T, v, rfl⟩, hbx⟩
  rotate_left
  · have HBX := Lib.hid hbx
    have HAL := Lib.hid (show allP G = false by simp [allP, hg0, hg1, hg2, hg3, hg4, hg5, hg6, hg7])
    clear hbx hg7
    go_wp2_with fail
    go_ret2
    exact ⟨HBX.out, .inr ⟨HAL.out, T, v, rfl⟩⟩
  have HST := Lib.hid hst
  have HAL := Lib.hid (show allP G = true by simp [allP, hg0, hg1, hg2, hg3, hg4, hg5, hg6, hg7])
  have HW := Lib.hid (show #[wantP G 0, wantP G 1, wantP G 3, wantP G 5, wantP G 7, wantP G 2, wantP G 4, wantP G 6].map strV = #[.string ⟨x0.toArray⟩, .string ⟨x1.toArray⟩, .string ⟨x3.toArray⟩, .string ⟨x5.toArray⟩, .string ⟨x7.toArray⟩, .string ⟨x2.toArray⟩, .string ⟨x4.toArray⟩, .string ⟨x6.toArray⟩] by simp [wantP, strV, hg0, hg1, hg2, hg3, hg4, hg5, hg6, hg7])
  clear hst hg0 hg1 hg2 hg3 hg4 hg5 hg6 hg7
  go_wp2_with fail
  go_ret2
  exact ⟨HST.out.hb, .inl ⟨HAL.out, rfl, HW.out ▸ HST.out.blk⟩⟩

end Go.Proofs.YtmblpmmnglmjfaaGreatDoor
