/- base64's decodeQuantum at quanta that are well written. -/
import Derived.Test.YtoeepfmmceilaaaGreatDoorLnEnc
import Derived.Deep.MidRow
set_option linter.unusedVariables false
set_option linter.unusedSimpArgs false
namespace Go.Proofs.YtoeepfmmceilaaaGreatDoor
open Go.RowKit

def mapL : List Value := (List.range 256).map (fun j => Value.int .u8 (dmapAt 64 j : Int))
theorem load_map {w : World} {g : Nat} (hb : Blk w g 177 encC) : w.rangeAt g 64 mapL := by
  intro j v hv
  unfold mapL at hv
  obtain ⟨h, hv⟩ := List.getElem?_eq_some_iff.1 hv
  rw [List.length_map, List.length_range] at h
  rw [hb.cell, encC_map j h, ← hv]
  simp

theorem or_val (d0 d1 d2 d3 : Nat) (h0 : d0 < 64) (h1 : d1 < 64) (h2 : d2 < 64) (h3 : d3 < 64) : bits .or .u64 ((d0 : Int) * 262144) ((d1 : Int) * 4096) = ((d0 * 64 + d1 : Nat) : Int) * 4096 ∧
    bits .or .u64 (((d0 * 64 + d1 : Nat) : Int) * 4096) ((d2 : Int) * 64) = (((d0 * 64 + d1) * 64 + d2 : Nat) : Int) * 64 ∧ bits .or .u64 ((((d0 * 64 + d1) * 64 + d2 : Nat) : Int) * 64) (d3 : Int) = ((((d0 * 64 + d1) * 64 + d2) * 64 + d3 : Nat) : Int) := by
  have e1 : ((d0 * 262144 : Nat) : Int) = (d0 : Int) * 262144 := Int.natCast_mul _ _
  have e2 : ((d1 * 4096 : Nat) : Int) = (d1 : Int) * 4096 := Int.natCast_mul _ _
  have e3 : ((d2 * 64 : Nat) : Int) = (d2 : Int) * 64 := Int.natCast_mul _ _
  have e4 : (((d0 * 64 + d1) * 4096 : Nat) : Int) = ((d0 * 64 + d1 : Nat) : Int) * 4096 := Int.natCast_mul _ _
  have e5 : ((((d0 * 64 + d1) * 64 + d2) * 64 : Nat) : Int) = (((d0 * 64 + d1) * 64 + d2 : Nat) : Int) * 64 := Int.natCast_mul _ _
  refine ⟨?_, ?_, ?_⟩
  · have n1 : d0 * 262144 ||| d1 * 4096 = d0 * 262144 + d1 * 4096 := nat_or_add d0 (d1 * 4096) 18 (by omega)
    have o1 := u64_or_nat (d0 * 262144) (d1 * 4096) (by omega) (by omega)
    rw [n1, show d0 * 262144 + d1 * 4096 = (d0 * 64 + d1) * 4096 by omega, e4, e1, e2] at o1
    exact o1
  · have n2 : (d0 * 64 + d1) * 4096 ||| d2 * 64 = (d0 * 64 + d1) * 4096 + d2 * 64 := nat_or_add (d0 * 64 + d1) (d2 * 64) 12 (by omega)
    have o2 := u64_or_nat ((d0 * 64 + d1) * 4096) (d2 * 64) (by omega) (by omega)
    rw [n2, show (d0 * 64 + d1) * 4096 + d2 * 64 = ((d0 * 64 + d1) * 64 + d2) * 64 by omega, e4, e3, e5] at o2
    exact o2
  · have n3 : ((d0 * 64 + d1) * 64 + d2) * 64 ||| d3 = ((d0 * 64 + d1) * 64 + d2) * 64 + d3 := nat_or_add ((d0 * 64 + d1) * 64 + d2) d3 6 (by omega)
    have o3 := u64_or_nat (((d0 * 64 + d1) * 64 + d2) * 64) d3 (by omega) (by omega)
    rw [n3, e5] at o3
    exact o3
theorem cell_al {w : World} {p : Addr} {v : Value} (h : w.cell? p = some v) : ∀ o : Obj, (w.alloc o).cell? p = some v := fun o => (((Below.refl w.heap.size w).alloc (Nat.le_refl _) o).cell (blk_lt_of_cell h)).trans h
theorem froz_al {w : World} {p : Addr} (hp : p.block < w.heap.size) (h : w.frozen? p = false) : ∀ o : Obj, (w.alloc o).frozen? p = false := fun o => (((Below.refl w.heap.size w).alloc (Nat.le_refl _) o).frozen hp).trans h
theorem size_map : (Tryz.prog.info? 175).map (·.size) = some mapL.length := by kernel_rfl
set_option maxRecDepth 100000 in
set_option maxHeartbeats 1600000 in
theorem dq_full (w : World) (ge gd n dl dc m mc si : Nat) (ad : Addr) (cs : Array Value) (d0 d1 d2 d3 : Nat) (h0 : d0 < 64) (h1 : d1 < 64) (h2 : d2 < 64) (h3 : d3 < 64)
    (hb : Blk w ge 177 encC) (hd : Blk w gd 5 cs) (hdl : 3 ≤ dl) (hcs : n + 3 ≤ cs.size) (hm : si + 4 ≤ m) (hmm : m ≤ 4000000)
    (c0 : w.cell? (ad.add si) = some (.int .u8 ((signP d0).toNat : Int))) (c1 : w.cell? ⟨ad.block, ad.off + (si + 1), none⟩ = some (.int .u8 ((signP d1).toNat : Int))) (c2 : w.cell? ⟨ad.block, ad.off + (si + 2), none⟩ = some (.int .u8 ((signP d2).toNat : Int))) (c3 : w.cell? ⟨ad.block, ad.off + (si + 3), none⟩ = some (.int .u8 ((signP d3).toNat : Int))) :
    Calls Tryz.prog 122 #[.pointer (some ⟨ge, 0, none⟩), .slice (some ⟨gd, n, none⟩) dl dc, .slice (some ad) m mc, .int .i64 (si : Int)] w fun e w' => e = .returned (.tuple #[.int .i64 ((si + 4 : Nat) : Int), .int .i64 3, .nilIface]) ∧ Keep (but gd) w w' ∧ Blk w' gd 5 (((cs.setIfInBounds (n + 2) (byteV (UInt8.ofNat (d2 % 4 * 64 + d3)))).setIfInBounds (n + 1) (byteV (UInt8.ofNat (d1 % 16 * 16 + d2 / 4)))).setIfInBounds n (byteV (UInt8.ofNat (d0 * 4 + d1 / 16)))) := by
  obtain ⟨s0, hs0⟩ : ∃ s : Nat, s = (signP d0).toNat := ⟨_, rfl⟩
  obtain ⟨s1, hs1⟩ : ∃ s : Nat, s = (signP d1).toNat := ⟨_, rfl⟩
  obtain ⟨s2, hs2⟩ : ∃ s : Nat, s = (signP d2).toNat := ⟨_, rfl⟩
  obtain ⟨s3, hs3⟩ : ∃ s : Nat, s = (signP d3).toNat := ⟨_, rfl⟩
  have l0 : s0 < 256 := by rw [hs0]; exact (signP d0).toNat_lt
  have l1 : s1 < 256 := by rw [hs1]; exact (signP d1).toNat_lt
  have l2 : s2 < 256 := by rw [hs2]; exact (signP d2).toNat_lt
  have l3 : s3 < 256 := by rw [hs3]; exact (signP d3).toNat_lt
  have k0 : w.cell? ⟨ge, 64 + s0, none⟩ = some (.int .u8 (d0 : Int)) := by rw [hb.cell, encC_map _ l0, hs0, dmap_sign h0]
  have k1 : w.cell? ⟨ge, 64 + s1, none⟩ = some (.int .u8 (d1 : Int)) := by rw [hb.cell, encC_map _ l1, hs1, dmap_sign h1]
  have k2 : w.cell? ⟨ge, 64 + s2, none⟩ = some (.int .u8 (d2 : Int)) := by rw [hb.cell, encC_map _ l2, hs2, dmap_sign h2]
  have k3 : w.cell? ⟨ge, 64 + s3, none⟩ = some (.int .u8 (d3 : Int)) := by rw [hb.cell, encC_map _ l3, hs3, dmap_sign h3]
  have kst : w.cell? ⟨ge, 321, none⟩ = some (.bool false) := by rw [hb.cell]; exact encC_strict
  have kpd : w.cell? ⟨ge, 320, none⟩ = some (.int .i32 61) := by rw [hb.cell]; exact encC_pad
  rw [← hs0] at c0
  rw [← hs1] at c1
  rw [← hs2] at c2
  rw [← hs3] at c3
  have hge := hb.lt
  have hadl : ad.block < w.heap.size := by
    have := blk_lt_of_cell c0
    rwa [add_block] at this
  have hgd := hd.lt
  have hgg : ge ≠ gd := by
    rintro rfl
    have := hb.symm.trans hd
    injection this with h1
    injection h1 with _ h2 _
    exact absurd h2 (by decide)
  have HX := Lib.hid (load_map (hb.alloc (.cells #[.int .u8 0, .int .u8 0, .int .u8 0, .int .u8 0] 204)))
  have e0 : ((m : Int) == (si : Int)) = false := by simp only [beq_eq_false_iff_ne, ne_eq]; omega
  have e1 : ((m : Int) == (si : Int) + 1) = false := by simp only [beq_eq_false_iff_ne, ne_eq]; omega
  have e2 : ((m : Int) == (si : Int) + 2) = false := by simp only [beq_eq_false_iff_ne, ne_eq]; omega
  have e3 : ((m : Int) == (si : Int) + 3) = false := by simp only [beq_eq_false_iff_ne, ne_eq]; omega
  have n0 : ((d0 : Int) != 255) = true := by simp only [bne_iff_ne, ne_eq]; omega
  have n1 : ((d1 : Int) != 255) = true := by simp only [bne_iff_ne, ne_eq]; omega
  have n2 : ((d2 : Int) != 255) = true := by simp only [bne_iff_ne, ne_eq]; omega
  have n3 : ((d3 : Int) != 255) = true := by simp only [bne_iff_ne, ne_eq]; omega
  obtain ⟨r1, r2, r3⟩ := or_val d0 d1 d2 d3 h0 h1 h2 h3
  obtain ⟨u1, hu1⟩ : ∃ u : Nat, u = d0 * 64 + d1 := ⟨_, rfl⟩
  obtain ⟨u2, hu2⟩ : ∃ u : Nat, u = (d0 * 64 + d1) * 64 + d2 := ⟨_, rfl⟩
  obtain ⟨V, hV⟩ : ∃ u : Nat, u = ((d0 * 64 + d1) * 64 + d2) * 64 + d3 := ⟨_, rfl⟩
  rw [← hV, ← hu2] at r3
  rw [← hu2, ← hu1] at r2
  rw [← hu1] at r1
  have p0 : (V : Int) / 65536 = ((UInt8.ofNat (d0 * 4 + d1 / 16)).toNat : Int) := by rw [ofNat_toNat]; omega
  have p0' : (V : Int) / 65536 % 256 = ((UInt8.ofNat (d0 * 4 + d1 / 16)).toNat : Int) := by rw [ofNat_toNat]; omega
  have p1 : (V : Int) / 256 % 256 = ((UInt8.ofNat (d1 % 16 * 16 + d2 / 4)).toNat : Int) := by rw [ofNat_toNat]; omega
  have p2 : (V : Int) % 256 = ((UInt8.ofNat (d2 % 4 * 64 + d3)).toNat : Int) := by rw [ofNat_toNat]; omega
  have hVl : V < 16777216 := by omega
  have hu1l : u1 < 4096 := by omega
  have hu2l : u2 < 262144 := by omega
  obtain ⟨y0, hy0⟩ : ∃ y : UInt8, y = UInt8.ofNat (d0 * 4 + d1 / 16) := ⟨_, rfl⟩
  obtain ⟨y1, hy1⟩ : ∃ y : UInt8, y = UInt8.ofNat (d1 % 16 * 16 + d2 / 4) := ⟨_, rfl⟩
  obtain ⟨y2, hy2⟩ : ∃ y : UInt8, y = UInt8.ofNat (d2 % 4 * 64 + d3) := ⟨_, rfl⟩
  rw [← hy0] at p0 p0' ⊢
  rw [← hy1] at p1 ⊢
  rw [← hy2] at p2 ⊢
  clear hV hu1 hu2 hy0 hy1 hy2
  have q0 := cell_al (hd.cell n |>.trans (Array.getElem?_eq_getElem (by omega)))
  have q1 := cell_al (hd.cell (n + 1) |>.trans (Array.getElem?_eq_getElem (by omega)))
  have q2 := cell_al (hd.cell (n + 2) |>.trans (Array.getElem?_eq_getElem (by omega)))
  have f0 := froz_al hgd (hd.frozen n)
  have f1 := froz_al hgd (hd.frozen (n + 1))
  have f2 := froz_al hgd (hd.frozen (n + 2))
  have a0 := cell_al c0
  have a1 := cell_al c1
  have a2 := cell_al c2
  have a3 := cell_al c3
  have b0 := cell_al k0
  have b1 := cell_al k1
  have b2 := cell_al k2
  have b3 := cell_al k3
  have bs := cell_al kst
  have t1 : ∀ u, ((w.setCell ⟨gd, n + 2, none⟩ u).cell? ⟨ge, 321, none⟩ = some (.bool false)) := fun u => (World.cell?_of_block (Below.heap_setCell _ _ _ _ hgg)).trans kst
  have t2 : ∀ u u', (((w.setCell ⟨gd, n + 2, none⟩ u).setCell ⟨gd, n + 1, none⟩ u').cell? ⟨ge, 321, none⟩ = some (.bool false)) := fun u u' => (World.cell?_of_block (Below.heap_setCell _ _ _ _ hgg)).trans (t1 u)
  have t3 : ∀ u u' u'', ((((w.setCell ⟨gd, n + 2, none⟩ u).setCell ⟨gd, n + 1, none⟩ u').setCell ⟨gd, n, none⟩ u'').cell? ⟨ge, 321, none⟩ = some (.bool false)) := fun u u' u'' => (World.cell?_of_block (Below.heap_setCell _ _ _ _ hgg)).trans (t2 u u')
  have bs1 := fun u => cell_al (t1 u)
  have bs2 := fun u u' => cell_al (t2 u u')
  have bs3 := fun u u' u'' => cell_al (t3 u u' u'')
  have z1 : ∀ u, Blk (w.setCell ⟨gd, n + 2, none⟩ u) gd 5 (cs.setIfInBounds (n + 2) u) := fun u => hd.set_ _ _
  have z2 : ∀ u u', Blk ((w.setCell ⟨gd, n + 2, none⟩ u).setCell ⟨gd, n + 1, none⟩ u') gd 5 ((cs.setIfInBounds (n + 2) u).setIfInBounds (n + 1) u') := fun u u' => (z1 u).set_ _ _
  have q11 := fun u => cell_al ((z1 u).cell (n + 1) |>.trans (Array.getElem?_eq_getElem (by rw [Array.size_setIfInBounds]; omega)))
  have f11 := fun u => froz_al (z1 u).lt ((z1 u).frozen (n + 1))
  have q02 := fun u u' => cell_al ((z2 u u').cell n |>.trans (Array.getElem?_eq_getElem (by rw [Array.size_setIfInBounds, Array.size_setIfInBounds]; omega)))
  have f02 := fun u u' => froz_al (z2 u u').lt ((z2 u u').frozen n)
  clear t1 t2 t3 z1 z2
  have bp := cell_al kpd
  have HB := Lib.hid hb
  have HD := Lib.hid hd
  clear hs0 hs1 hs2 hs3 hb hd c0 c1 c2 c3 k0 k1 k2 k3 kst kpd
  go_enter Tryz.func122, Tryz.ntmps122
  go_wp2_with fail
  refine wp_load_mid 175 (.tmp 19) rfl ge 64 rfl mapL (.array 256 5) HX.out Tryz.underlying175 rfl size_map ?_
  rename_i hK
  refine hK _ _ ?_
  clear hK
  go_wp2_with fail
  refine wp_loop_rounds 5 ?_
  rw [rounds_succ]
  go_wp2_with fail
  rw [rounds_succ]
  go_wp2_with fail
  rw [rounds_succ]
  go_wp2_with fail
  rw [rounds_succ]
  go_wp2_with fail
  rw [rounds_succ]
  go_wp2_with fail
  go_ret3
  have e4 : (si : Int) + 1 + 1 + 1 + 1 = ((si + 4 : Nat) : Int) := by omega
  refine ⟨by rw [e4]; rfl, ?_, ?_⟩
  · exact (((((Keep.refl (but gd) w).setCell (fun _ ho => ho rfl) _).setCell (fun _ ho => ho rfl) _).setCell (fun _ ho => ho rfl) _).alloc _)
  · exact ((((HD.out.set_ (n + 2) _).set_ (n + 1) _).set_ n _).alloc _)

end Go.Proofs.YtoeepfmmceilaaaGreatDoor
