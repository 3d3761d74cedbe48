/- ssh.appendU32, ssh.appendInt, bigEndian.PutUint32 over a row of the caller's own. -/
import Derived.Test.YtoeepfmmceilaaaGreatDoorLnBytes
import Derived.Test.YtoeepfmmceilaaaGreatDoorObj
set_option linter.unusedVariables false
set_option linter.unusedSimpArgs false
namespace Go.Proofs.YtoeepfmmceilaaaGreatDoor
open Go.RowKit

/-- A row of one's own behind an append. -/
def AppEnd (B : Nat) (w : World) (v : Value) (l : List UInt8) (e : Ending) (w' : World) : Prop :=
  ∃ (A' : Option Addr) (c' : Nat), e = .returned (.slice A' l.length c') ∧ w'.ownsRow B 5 1 (.slice A' l.length c') l.length (l.map byteV) ∧ w.grownBy w' v.ownBlock
theorem rr4 {w : World} {b : Nat} {e : TypeId} {x0 x1 x2 x3 : UInt8} (h : Blk w b e #[byteV x0, byteV x1, byteV x2, byteV x3]) : RR (lit byteV) all_ w (some ⟨b, 0, none⟩) [x0, x1, x2, x3] := fun i x hx => by
  refine ⟨_, _, rfl, trivial, ?_, rfl⟩
  rw [show (⟨b, 0, none⟩ : Addr).add i = ⟨b, i, none⟩ by unfold Addr.add; split <;> simp_all, h.cell]
  match i, hx with
  | 0, hx => simp at hx; subst hx; rfl
  | 1, hx => simp at hx; subst hx; rfl
  | 2, hx => simp at hx; subst hx; rfl
  | 3, hx => simp at hx; subst hx; rfl
  | n + 4, hx => simp at hx

theorem byte0 {n : Nat} (hn : n < 4294967296) : Value.int .u8 ((n : Int) / 16777216) = byteV (UInt8.ofNat (n / 16777216)) := by unfold byteV; rw [ofNat_toNat]; congr 1; omega
theorem byte1 (n : Nat) : Value.int .u8 ((n : Int) / 65536 % 256) = byteV (UInt8.ofNat (n / 65536)) := by unfold byteV; rw [ofNat_toNat]; rfl
theorem byte2 (n : Nat) : Value.int .u8 ((n : Int) / 256 % 256) = byteV (UInt8.ofNat (n / 256)) := by unfold byteV; rw [ofNat_toNat]; rfl
theorem byte3 (n : Nat) : Value.int .u8 ((n : Int) % 256) = byteV (UInt8.ofNat n) := by unfold byteV; rw [ofNat_toNat]
theorem rr4n {w : World} {b : Nat} {e : TypeId} {n : Nat} (hn : n < 4294967296) (h : Blk w b e #[.int .u8 ((n : Int) / 16777216), .int .u8 ((n : Int) / 65536 % 256), .int .u8 ((n : Int) / 256 % 256), .int .u8 ((n : Int) % 256)]) : RR (lit byteV) all_ w (some ⟨b, 0, none⟩) (be4 n) := by
  rw [byte0 hn, byte1, byte2, byte3] at h
  exact rr4 h

set_option maxHeartbeats 400000 in
theorem appU32 (B : Nat) (A : Option Addr) (c : Nat) (out : List UInt8) (n : Nat) (hn : n < 4294967296) (w : World) (hl : out.length ≤ 100000000) (hB : B ≤ w.heap.size) (hown : w.ownsRow B 5 1 (.slice A out.length c) out.length (out.map byteV)) :
    Calls Tryz.prog 210 #[.slice A out.length c, .int .u32 (n : Int)] w (AppEnd B w (.slice A out.length c) (out ++ be4 n)) := by
  have HO := Lib.hid (show w.ownsRow B 5 1 (.slice A out.length c) (out.map byteV).length (out.map byteV) by rw [List.length_map]; exact hown)
  have HLL := Lib.hid hl
  have HBB := Lib.hid hB
  clear hown hl hB
  go_enter Tryz.func210, Tryz.ntmps210
  go_wp2_with (at_builtin; refine wpList_append_RR rfl _ _ _ rfl B 5 (.int .u8 0) 1 Tryz.underlying28 info_u8 rfl (.slice A out.length c) (out.map byteV) rfl (HO.out.alloc _) byteV byteV_one (some ⟨w.heap.size, 0, none⟩) 4 (be4 n) rfl (rr4n hn (Blk.new w 5 _)) (by have := HLL.out; simp [be4]; omega) (by have := HLL.out; simp [be4]; omega) (Nat.le_trans HBB.out (by simp)) ?_; intro A2 c2 w2 hown2 hg2 hat2)
  go_ret
  refine ⟨A2, c2, by simp [be4], by simpa [be4] using hown2, ?_⟩
  exact grownBy_trans (grownBy_alloc (grownBy_refl _ _) _) hg2

set_option maxHeartbeats 400000 in
theorem appInt (B : Nat) (A : Option Addr) (c : Nat) (out : List UInt8) (n : Nat) (hn : n < 4294967296) (w : World) (hl : out.length ≤ 100000000) (hB : B ≤ w.heap.size) (hown : w.ownsRow B 5 1 (.slice A out.length c) out.length (out.map byteV)) :
    Calls Tryz.prog 212 #[.slice A out.length c, .int .i64 (n : Int)] w (AppEnd B w (.slice A out.length c) (out ++ be4 n)) := by
  have HU := Lib.hid (appU32 B A c out n hn w hl hB hown)
  have e : (n : Int) % 4294967296 = (n : Int) := by omega
  clear hown hl hB
  go_enter Tryz.func212, Tryz.ntmps212
  go_wp2_with (go_at_call 210; refine HU.out.mono ?_; rintro e w1 ⟨A2, c2, rfl, hown2, hb2⟩; have HO2 := Lib.hid hown2; clear hown2)
  go_ret
  exact ⟨A2, c2, by rw [show out.length + (be4 n).length = (out ++ be4 n).length by simp]; rfl, HO2.out, hb2⟩

set_option maxHeartbeats 1000000 in
theorem put32 (g o n c : Nat) (v : Nat) (hv : v < 4294967296) (hn : 4 ≤ n) (hnm : n ≤ 100000000) (w : World) (t : TypeId) (cs : Array Value) (hb : Blk w g t cs) (ho : o + 4 ≤ cs.size) :
    Calls Tryz.prog 213 #[.agg #[], .slice (some ⟨g, o, none⟩) n c, .int .u32 (v : Int)] w fun e w' => e = .returned (.tuple #[]) ∧ Blk w' g t ((((cs.setIfInBounds o (byteV (UInt8.ofNat (v / 16777216)))).setIfInBounds (o + 1) (byteV (UInt8.ofNat (v / 65536)))).setIfInBounds (o + 2) (byteV (UInt8.ofNat (v / 256)))).setIfInBounds (o + 3) (byteV (UInt8.ofNat v))) ∧ w.grownBy w' (some g) := by
  have HB := Lib.hid hb
  have hgl := hb.lt
  have f0 := hb.frozen o
  have f1 := hb.frozen (o + 1)
  have f2 := hb.frozen (o + 2)
  have f3 := hb.frozen (o + 3)
  obtain ⟨u0, c0⟩ : ∃ u, w.cell? ⟨g, o, none⟩ = some u := by rw [hb.cell]; exact ⟨_, Array.getElem?_eq_getElem (by omega)⟩
  obtain ⟨u1, c1⟩ : ∃ u, w.cell? ⟨g, o + 1, none⟩ = some u := by rw [hb.cell]; exact ⟨_, Array.getElem?_eq_getElem (by omega)⟩
  obtain ⟨u2, c2⟩ : ∃ u, w.cell? ⟨g, o + 2, none⟩ = some u := by rw [hb.cell]; exact ⟨_, Array.getElem?_eq_getElem (by omega)⟩
  obtain ⟨u3, c3⟩ : ∃ u, w.cell? ⟨g, o + 3, none⟩ = some u := by rw [hb.cell]; exact ⟨_, Array.getElem?_eq_getElem (by omega)⟩
  have i3 : (3 : Int) < (n : Int) := by omega
  have i2 : (2 : Int) < (n : Int) := by omega
  have i1 : (1 : Int) < (n : Int) := by omega
  have i0 : (0 : Int) < (n : Int) := by omega
  have i3n : (3 : Nat) < n := by omega
  have i2n : (2 : Nat) < n := by omega
  have i1n : (1 : Nat) < n := by omega
  have i0n : (0 : Nat) < n := by omega
  clear hb ho hn
  go_enter Tryz.func213, Tryz.ntmps213
  go_wp2_with fail
  go_end0
  refine ⟨rfl, ?_, ?_⟩
  · have h := ((((HB.out.set_ o (.int .u8 ((v : Int) / 16777216))).set_ (o + 1) (.int .u8 ((v : Int) / 65536 % 256))).set_ (o + 2) (.int .u8 ((v : Int) / 256 % 256))).set_ (o + 3) (.int .u8 ((v : Int) % 256))).alloc (.cells #[] 192)
    rw [byte0 hv, byte1, byte2, byte3] at h
    rw [byte0 hv, byte1, byte2, byte3]
    exact h
  · exact grownBy_alloc (grownBy_set (grownBy_set (grownBy_set (grownBy_set (grownBy_refl _ _) _ _) _ _) _ _) _ _) _

end Go.Proofs.YtoeepfmmceilaaaGreatDoor
