/- impl.AgreedOn: what two ends agree on by their lists. -/
import Derived.Test.YtmblpmmnglmjfaaGreatDoorAgZa
import Derived.Test.YtmblpmmnglmjfaaGreatDoorAgCalm
set_option linter.unusedVariables false
set_option linter.unusedSimpArgs false
namespace Go.Proofs.YtmblpmmnglmjfaaGreatDoor
open Go.RowKit

def eightV (g : Nat → Option (List UInt8)) : Array Value := #[wantP g 0, wantP g 1, wantP g 2, wantP g 3, wantP g 4, wantP g 5, wantP g 6, wantP g 7].map strV
/-- What the closure leaves in its two variables. -/
def ClEnd (B : Nat) (w : World) (go ge : Nat) (g : Nat → Option (List UInt8)) (w' : World) : Prop :=
  Keep (fun b => b ≠ go ∧ b ≠ ge) w w' ∧ ((allP g = true ∧ ∃ b, B ≤ b ∧ Blk w' go 22 #[.slice (some ⟨b, 0, none⟩) 8 8] ∧ Blk w' ge 44 #[.nilIface] ∧ Blk w' b 9 (eightV g)) ∨
    (allP g = false ∧ ∃ T v, Blk w' go 22 #[.slice none 0 0] ∧ Blk w' ge 44 #[.iface T v]))

set_option maxRecDepth 100000 in
set_option maxHeartbeats 1600000 in
theorem on_clos (w : World) (gc gs go ge : Nat) (adc ads : Addr) (capc caps : Nat) (A B : Nat → Option Addr) (a b : Nat → Nat) (c s : Nat → List (List UInt8)) (hc : ∀ i, i < 10 → In1 w adc i (c i) (A i) (a i)) (hs : ∀ i, i < 10 → In1 w ads i (s i) (B i) (b i))
    (k0 : Blk w gc 30 #[.slice (some adc) 10 capc]) (k1 : Blk w gs 30 #[.slice (some ads) 10 caps]) (k2 : Blk w go 22 #[.slice none 0 0]) (k3 : Blk w ge 44 #[.nilIface]) :
    Calls Tryz.prog 19 #[.pointer (some ⟨gc, 0, none⟩), .pointer (some ⟨gs, 0, none⟩), .pointer (some ⟨go, 0, none⟩), .pointer (some ⟨ge, 0, none⟩)] w fun e w' => e = .returned (.tuple #[]) ∧ ClEnd w.heap.size w go ge (fun i => agreeP (s i) (c i)) w' := by
  obtain ⟨G, hG⟩ : ∃ G : Nat → Option (List UInt8), G = fun i => agreeP (s i) (c i) := ⟨_, rfl⟩
  have HZ := Lib.hid (za_any w adc ads capc caps A B a b c s hc hs)
  rw [← hG] at HZ ⊢
  have hne : go ≠ ge := k2.ne_ k3 (by decide)
  have h0 := k0.cell 0
  have h1 := k1.cell 0
  have K2 := Lib.hid k2
  have K3 := Lib.hid k3
  clear hc hs k0 k1 k2 k3 hG
  go_enter Tryz.func19, Tryz.ntmps19
  go_wp2_with (go_at_call 20; refine Hid.out ?_)
  refine Lib.hid ?_
  refine HZ.out.mono ?_
  rintro e w1 ⟨hb1, ⟨hall, bb, rfl, hbb, hbk⟩ | ⟨hall, T, v, rfl⟩⟩
  · have HB1 := Lib.hid hb1
    have HA := Lib.hid hall
    have HBK := Lib.hid hbk
    have k2' : Blk w1 go 22 #[.slice none 0 0] := (hb1.block _ K2.out.lt).trans K2.out
    have k3' : Blk w1 ge 44 #[.nilIface] := (hb1.block _ K3.out.lt).trans K3.out
    have c2 := k2'.cell 0
    have f2 := k2'.frozen 0
    have c3 := k3'.cell 0
    have f3 := k3'.frozen 0
    have K2' := Lib.hid k2'
    have K3' := Lib.hid k3'
    clear hb1 hall hbk k2' k3' h0 h1
    go_wp2_with fail
    go_end0
    have hgo := K2.out.lt
    have hge := K3.out.lt
    refine ⟨rfl, ((Keep.of_below HB1.out).setCell (fun _ ho => ho.1 rfl) _).setCell (fun _ ho => ho.2 rfl) _, .inl ⟨HA.out, bb, hbb, ?_, ?_, ?_⟩⟩
    · exact (K2'.out.set_ 0 _).far (by exact hne) _
    · exact (K3'.out.far (by exact fun e => hne e.symm) _).set_ 0 _
    · exact (HBK.out.far (by show bb ≠ go; omega) _).far (by show bb ≠ ge; omega) _
  · have HB1 := Lib.hid hb1
    have HA := Lib.hid hall
    have k2' : Blk w1 go 22 #[.slice none 0 0] := (hb1.block _ K2.out.lt).trans K2.out
    have k3' : Blk w1 ge 44 #[.nilIface] := (hb1.block _ K3.out.lt).trans K3.out
    have c2 := k2'.cell 0
    have f2 := k2'.frozen 0
    have c3 := k3'.cell 0
    have f3 := k3'.frozen 0
    have K2' := Lib.hid k2'
    have K3' := Lib.hid k3'
    clear hb1 hall k2' k3' h0 h1
    go_wp2_with fail
    go_end0
    refine ⟨rfl, ((Keep.of_below HB1.out).setCell (fun _ ho => ho.1 rfl) _).setCell (fun _ ho => ho.2 rfl) _, .inr ⟨HA.out, T, v, ?_, ?_⟩⟩
    · exact (K2'.out.set_ 0 _).far (by exact hne) _
    · exact (K3'.out.far (by exact fun e => hne e.symm) _).set_ 0 _

/-- How AgreedOn ends. -/
def OnEnd (w : World) (g : Nat → Option (List UInt8)) (e : Ending) (w' : World) : Prop :=
  Below w.heap.size w w' ∧ ((allP g = true ∧ ∃ b, e = .returned (.tuple #[.slice (some ⟨b, 0, none⟩) 8 8, .bool true]) ∧ w.heap.size ≤ b ∧ Blk w' b 9 (eightV g)) ∨
    (allP g = false ∧ e = .returned (.tuple #[.slice none 0 0, .bool false])))
set_option maxRecDepth 100000 in
set_option maxHeartbeats 1600000 in
theorem on_any (w : World) (adc ads : Addr) (capc caps : Nat) (A B : Nat → Option Addr) (a b : Nat → Nat) (c s : Nat → List (List UInt8)) (hc : ∀ i, i < 10 → In1 w adc i (c i) (A i) (a i)) (hs : ∀ i, i < 10 → In1 w ads i (s i) (B i) (b i)) :
    Calls Tryz.prog 11 #[.slice (some adc) 10 capc, .slice (some ads) 10 caps] w (OnEnd w fun i => agreeP (s i) (c i)) := by
  obtain ⟨G, hG⟩ : ∃ G : Nat → Option (List UInt8), G = fun i => agreeP (s i) (c i) := ⟨_, rfl⟩
  rw [← hG]
  obtain ⟨w1, hw1⟩ : ∃ W, W = (((w.alloc (.cells #[.slice (some adc) 10 capc] 30)).alloc (.cells #[.slice (some ads) 10 caps] 30)).alloc (.cells #[.slice none 0 0] 22)).alloc (.cells #[.nilIface] 44) := ⟨_, rfl⟩
  have hb1 : Below w.heap.size w w1 := by rw [hw1]; exact ((((Below.refl _ _).alloc (Nat.le_refl _) _).alloc (by simp) _).alloc (by simp; omega) _).alloc (by simp; omega) _
  have k0 : Blk w1 w.heap.size 30 #[.slice (some adc) 10 capc] := by rw [hw1]; exact (((Blk.new _ _ _).alloc _).alloc _).alloc _
  have k1 : Blk w1 (w.heap.size + 1) 30 #[.slice (some ads) 10 caps] := by
    rw [hw1]
    have := ((Blk.new (w.alloc (.cells #[.slice (some adc) 10 capc] 30)) 30 #[.slice (some ads) 10 caps]).alloc (.cells #[.slice none 0 0] 22)).alloc (.cells #[.nilIface] 44)
    simpa using this
  have k2 : Blk w1 (w.heap.size + 2) 22 #[.slice none 0 0] := by
    rw [hw1]
    have := (Blk.new ((w.alloc (.cells #[.slice (some adc) 10 capc] 30)).alloc (.cells #[.slice (some ads) 10 caps] 30)) 22 #[.slice none 0 0]).alloc (.cells #[.nilIface] 44)
    simpa using this
  have k3 : Blk w1 (w.heap.size + 3) 44 #[.nilIface] := by
    rw [hw1]
    have := Blk.new (((w.alloc (.cells #[.slice (some adc) 10 capc] 30)).alloc (.cells #[.slice (some ads) 10 caps] 30)).alloc (.cells #[.slice none 0 0] 22)) 44 #[.nilIface]
    simpa using this
  have hz1 : w1.heap.size = w.heap.size + 4 := by rw [hw1]; simp
  have hbn : Below w1.heap.size w1 (w1.alloc (.cells #[.bool false] 4)) := (Below.refl _ _).alloc (Nat.le_refl _) _
  have hcl := on_clos (w1.alloc (.cells #[.bool false] 4)) w.heap.size (w.heap.size + 1) (w.heap.size + 2) (w.heap.size + 3) adc ads capc caps A B a b c s (fun i hi => ((hc i hi).below hb1).below hbn) (fun i hi => ((hs i hi).below hb1).below hbn) (k0.alloc _) (k1.alloc _) (k2.alloc _) (k3.alloc _)
  rw [← hG] at hcl
  have HC := Lib.hid (calm_walk 19 #[.pointer (some ⟨w.heap.size, 0, none⟩), .pointer (some ⟨w.heap.size + 1, 0, none⟩), .pointer (some ⟨w.heap.size + 2, 0, none⟩), .pointer (some ⟨w.heap.size + 3, 0, none⟩)] w1 (fun W => ClEnd (w1.heap.size + 1) w1 (w.heap.size + 2) (w.heap.size + 3) G W) (fun W => by kernel_rfl)
    (hcl.mono fun e w' ⟨h0, h1, h2⟩ => by
      have hnb := (Blk.new w1 4 #[.bool false]).keep h1 ⟨show w1.heap.size ≠ _ by omega, show w1.heap.size ≠ _ by omega⟩
      refine ⟨h0, hnb.cell 0, hnb.frozen 0, (Keep.of_below hbn).trans h1, ?_⟩
      simpa using h2))
  rw [hw1] at HC
  have HB1 := Lib.hid hb1
  have HZ1 := Lib.hid hz1
  have HW1 := Lib.hid hw1
  clear hw1 hb1 k0 k1 k2 k3 hz1 hbn hcl hc hs hG
  go_enter Tryz.func11, Tryz.ntmps11
  go_upto_region 5 with (go_at_call 13; refine Hid.out ?_)
  refine Lib.hid ?_
  refine HC.out.mono ?_
  rw [← HW1.out]
  rintro e w3 ⟨rfl, w2, ⟨hk2, h2⟩, hw3⟩
  have hz1 := HZ1.out
  have hb3 : Below w.heap.size w w3 := by
    rw [hw3]
    exact Keep.below (((Keep.of_below (ok := all_) HB1.out).then hk2 (fun b hb _ => ⟨show b ≠ _ by omega, show b ≠ _ by omega⟩)).setCell (fun h => by have : w1.heap.size < w.heap.size := h; omega) _)
  have HB3 := Lib.hid hb3
  clear hk2 hb3 HC
  rcases h2 with ⟨hall, bb, hbb, k2, k3, kb⟩ | ⟨hall, T, v, k2, k3⟩
  · have k2' : Blk w3 (w.heap.size + 2) 22 #[.slice (some ⟨bb, 0, none⟩) 8 8] := by rw [hw3]; exact k2.far (by show _ ≠ w1.heap.size; omega) _
    have k3' : Blk w3 (w.heap.size + 3) 44 #[.nilIface] := by rw [hw3]; exact k3.far (by show _ ≠ w1.heap.size; omega) _
    have hbne : bb ≠ w1.heap.size := by omega
    have kb' : Blk w3 bb 9 (eightV G) := by rw [hw3]; exact kb.far hbne _
    have c2 : w3.cell? ⟨w.heap.size + 1 + 1, 0, none⟩ = some (.slice (some ⟨bb, 0, none⟩) 8 8) := k2'.cell 0
    have f2 : w3.frozen? ⟨w.heap.size + 1 + 1, 0, none⟩ = false := k2'.frozen 0
    have c3 : w3.cell? ⟨w.heap.size + 1 + 1 + 1, 0, none⟩ = some .nilIface := k3'.cell 0
    have HA := Lib.hid hall
    have HKB := Lib.hid kb'
    clear k2 k3 kb k2' k3' kb' hall hw3
    go_wp2_with fail
    refine bodyPost_ret (v := .tuple #[.slice (some ⟨bb, 0, none⟩) 8 8, .bool true]) (by simp [results, Tryz.results11, go_sem, c2, f2]) rfl ⟨?_, .inl ⟨HA.out, bb, rfl, by omega, HKB.out.far (by show bb ≠ w.heap.size + 2; omega) _⟩⟩
    exact HB3.out.setCell (by show w.heap.size ≤ w.heap.size + 2; omega) _
  · have k2' : Blk w3 (w.heap.size + 2) 22 #[.slice none 0 0] := by rw [hw3]; exact k2.far (by show _ ≠ w1.heap.size; omega) _
    have k3' : Blk w3 (w.heap.size + 3) 44 #[.iface T v] := by rw [hw3]; exact k3.far (by show _ ≠ w1.heap.size; omega) _
    have c2 : w3.cell? ⟨w.heap.size + 1 + 1, 0, none⟩ = some (.slice none 0 0) := k2'.cell 0
    have f2 : w3.frozen? ⟨w.heap.size + 1 + 1, 0, none⟩ = false := k2'.frozen 0
    have c3 : w3.cell? ⟨w.heap.size + 1 + 1 + 1, 0, none⟩ = some (.iface T v) := k3'.cell 0
    have HA := Lib.hid hall
    clear k2 k3 k2' k3' hall hw3
    go_wp2_with fail
    refine bodyPost_ret (v := .tuple #[.slice none 0 0, .bool false]) (by simp [results, Tryz.results11, go_sem, c2, f2]) rfl ⟨?_, .inr ⟨HA.out, rfl⟩⟩
    exact HB3.out.setCell (by show w.heap.size ≤ w.heap.size + 2; omega) _

end Go.Proofs.YtmblpmmnglmjfaaGreatDoor
