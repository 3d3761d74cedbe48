/- laws.keyFits of an RSA key. Printed by gen_fit.py. -/
import Derived.Test.YtoeepfmmceilaaaGreatDoorLnKeyP
set_option linter.unusedVariables false
set_option linter.unusedSimpArgs false
namespace Go.Proofs.YtoeepfmmceilaaaGreatDoor
open Go.RowKit

theorem and_1_of (x : Nat) (h : x < 256) : bits .and .u8 (x : Int) 1 = ((x % 2 : Nat) : Int) := by
  have : ∀ d : Fin 256, bits .and .u8 (d.val : Int) 1 = ((d.val % 2 : Nat) : Int) := by decide +kernel
  exact this ⟨x, h⟩
theorem fit_no {w : World} {K : KeyP} {w' : World} (h : Below w.heap.size w w') : FitEnd w K (.returned (.bool false)) w' := ⟨⟨false, rfl, fun h => absurd h (by decide)⟩, h⟩
set_option maxRecDepth 100000 in
set_option maxHeartbeats 3200000 in
theorem keyFits_rsa (ok : Nat → Prop) (v : Value) (K : KeyP) (w : World) (h0 : K.kind = 1) (hk : KeyAt ok w v K) : Calls Tryz.prog 22 #[v] w (FitEnd w K) := by
  obtain ⟨A0, c0, A1, c1, A2, c2, rfl, h1, h2, h3, h4⟩ := hk
  have z := size_list K.app
  have HK0 := Lib.hid h0
  rw [h0]
  have H3 := Lib.hid h3.out
  have H4 := Lib.hid h4.out
  clear h1 h2 h3 h4 h0
  have hal : ∀ o (p : Addr) (u : Value), w.cell? p = some u → (w.alloc o).cell? p = some u := fun o p u h => (((Below.refl w.heap.size w).alloc (Nat.le_refl _) o).cell (blk_lt_of_cell h)).trans h
  have HAL := Lib.hid hal
  clear hal
  by_cases hX : K.pt = []
  rotate_left
  · have e1 : ((K.pt.length : Int) == 0) = false := by
      rw [beq_eq_false_iff_ne]
      intro h
      exact hX (List.eq_nil_of_length_eq_zero (by omega))
    clear hX
    go_enter Tryz.func22, Tryz.ntmps22
    go_upto_region 3 with fail
    simp only [List.append_eq, List.cons_append, List.nil_append, List.append]
    go_wp2_with fail
    all_goals
      go_ret
      exact fit_no ((Below.refl _ _).alloc (Nat.le_refl _) _)
  have HPT := Lib.hid hX
  have e1 : ((K.pt.length : Int) == 0) = true := by rw [hX]; rfl
  clear hX
  by_cases hX : K.app = []
  rotate_left
  · have e2 : (K.app == []) = false := by rw [beq_eq_false_iff_ne]; exact hX
    go_enter Tryz.func22, Tryz.ntmps22
    go_upto_region 3 with fail
    simp only [List.append_eq, List.cons_append, List.nil_append, List.append]
    go_wp2_with fail
    all_goals
      go_ret
      exact fit_no ((Below.refl _ _).alloc (Nat.le_refl _) _)
  have HAP := Lib.hid hX
  rw [hX]
  clear hX z
  by_cases hX : K.e.length ≤ 3
  rotate_left
  · have e4 : ((K.e.length : Int) ≤ 3) = False := eq_false (by omega)
    clear hX
    go_enter Tryz.func22, Tryz.ntmps22
    go_upto_region 3 with fail
    simp only [List.append_eq, List.cons_append, List.nil_append, List.append]
    go_wp2_with fail
    all_goals
      go_ret
      exact fit_no ((Below.refl _ _).alloc (Nat.le_refl _) _)
  have HG2 := Lib.hid hX
  have e4 : ((K.e.length : Int) ≤ 3) = True := eq_true (by omega)
  clear hX
  by_cases hX : 0 < K.e.length
  rotate_left
  · have e3 : (0 < K.e.length) = False := eq_false hX
    clear hX
    go_enter Tryz.func22, Tryz.ntmps22
    go_upto_region 3 with fail
    simp only [List.append_eq, List.cons_append, List.nil_append, List.append]
    go_wp2_with fail
    all_goals
      go_ret
      exact fit_no ((Below.refl _ _).alloc (Nat.le_refl _) _)
  have HG1 := Lib.hid hX
  obtain ⟨ad, rfl, _, hc⟩ := RB.at H3.out hX
  obtain ⟨x, hx⟩ : ∃ x, K.e[0]? = some x := ⟨_, List.getElem?_eq_getElem hX⟩
  obtain ⟨l, hl⟩ : ∃ l, K.e[K.e.length - 1]? = some l := ⟨_, List.getElem?_eq_getElem (by omega)⟩
  obtain ⟨m1, hm1⟩ : ∃ m, m = K.e.length - 1 := ⟨_, rfl⟩
  have hs1 : (K.e.length : Int) - 1 = (m1 : Int) := by omega
  have hm1l : m1 < K.e.length := by omega
  have hw1 : wrap64 (m1 : Int) = (m1 : Int) := by have h9 := HG2.out; unfold wrap64; omega
  have HX := Lib.hid (And.intro hx hl)
  rw [← hm1] at hl
  have k0 : ∀ o, (w.alloc o).cell? ad = some (.int .u8 (x.toNat : Int)) := fun o => HAL.out o _ _ (hc 0 x hx)
  have k1 : ∀ o, (w.alloc o).cell? (ad.add m1) = some (.int .u8 (l.toNat : Int)) := fun o => HAL.out o _ _ (hc _ l hl)
  have e3 : (0 < K.e.length) = True := eq_true hX
  clear hX hc hx hl hm1
  by_cases hX : x ≠ 0
  rotate_left
  · have e5 : ((x.toNat : Int) != 0) = false := by
      have : x = 0 := Classical.byContradiction hX
      rw [this]
      rfl
    clear hX
    go_enter Tryz.func22, Tryz.ntmps22
    go_upto_region 3 with fail
    simp only [List.append_eq, List.cons_append, List.nil_append, List.append]
    go_wp2_with fail
    all_goals
      go_ret
      exact fit_no ((Below.refl _ _).alloc (Nat.le_refl _) _)
  have HX0 := Lib.hid hX
  have e5 : ((x.toNat : Int) != 0) = true := by
    rw [bne_iff_ne]
    intro h
    exact hX (UInt8.toNat_inj.1 (by show x.toNat = 0; omega))
  clear hX
  by_cases hX : l.toNat % 2 = 1
  rotate_left
  · have e6 : bits .and .u8 (l.toNat : Int) 1 = 0 := by rw [and_1_of _ l.toNat_lt, show l.toNat % 2 = 0 by omega]; rfl
    clear hX
    go_enter Tryz.func22, Tryz.ntmps22
    go_upto_region 3 with fail
    simp only [List.append_eq, List.cons_append, List.nil_append, List.append]
    go_wp2_with fail
    all_goals
      go_ret
      exact fit_no ((Below.refl _ _).alloc (Nat.le_refl _) _)
  have HX1 := Lib.hid hX
  have e6 : bits .and .u8 (l.toNat : Int) 1 = 1 := by rw [and_1_of _ l.toNat_lt, hX]; rfl
  clear hX
  by_cases hY : 1 < K.e.length
  rotate_left
  · have e71 : ((1 : Int) < (K.e.length : Int)) = False := eq_false (by omega)
    have e72 : (1 < K.e.length) = False := eq_false hY
    by_cases hX : 2 < x.toNat
    rotate_left
    · have e73 : ((2 : Int) < (x.toNat : Int)) = False := eq_false (by omega)
      clear hX hY
      go_enter Tryz.func22, Tryz.ntmps22
      go_upto_region 3 with fail
      simp only [List.append_eq, List.cons_append, List.nil_append, List.append]
      go_wp2_with fail
      all_goals
        go_ret
        exact fit_no ((Below.refl _ _).alloc (Nat.le_refl _) _)
    have HOR := Lib.hid (show 1 < K.e.length ∨ 2 < x.toNat from Or.inr hX)
    have e73 : ((2 : Int) < (x.toNat : Int)) = True := eq_true (by omega)
    clear hX hY
    by_cases hX : K.n.length ≤ 512
    rotate_left
    · have e9 : ((K.n.length : Int) ≤ 512) = False := eq_false (by omega)
      clear hX
      go_enter Tryz.func22, Tryz.ntmps22
      go_upto_region 3 with fail
      simp only [List.append_eq, List.cons_append, List.nil_append, List.append]
      go_wp2_with fail
      all_goals
        go_ret
        exact fit_no ((Below.refl _ _).alloc (Nat.le_refl _) _)
    have HG4 := Lib.hid hX
    have e9 : ((K.n.length : Int) ≤ 512) = True := eq_true (by omega)
    clear hX
    by_cases hX : 128 ≤ K.n.length
    rotate_left
    · have e8 : ((128 : Int) ≤ (K.n.length : Int)) = False := eq_false (by omega)
      clear hX
      go_enter Tryz.func22, Tryz.ntmps22
      go_upto_region 3 with fail
      simp only [List.append_eq, List.cons_append, List.nil_append, List.append]
      go_wp2_with fail
      all_goals
        go_ret
        exact fit_no ((Below.refl _ _).alloc (Nat.le_refl _) _)
    have HG3 := Lib.hid hX
    obtain ⟨bd, rfl, _, hd⟩ := RB.at H4.out (by omega)
    obtain ⟨y, hy⟩ : ∃ y, K.n[0]? = some y := ⟨_, List.getElem?_eq_getElem (by omega)⟩
    obtain ⟨q, hq⟩ : ∃ q, K.n[K.n.length - 1]? = some q := ⟨_, List.getElem?_eq_getElem (by omega)⟩
    obtain ⟨m2, hm2⟩ : ∃ m, m = K.n.length - 1 := ⟨_, rfl⟩
    have hs2 : (K.n.length : Int) - 1 = (m2 : Int) := by omega
    have hm2l : m2 < K.n.length := by omega
    have hw2 : wrap64 (m2 : Int) = (m2 : Int) := by have h9 := HG4.out; unfold wrap64; omega
    have hn0 : 0 < K.n.length := by omega
    have HY := Lib.hid hy
    rw [← hm2] at hq
    have k2 : ∀ o, (w.alloc o).cell? bd = some (.int .u8 (y.toNat : Int)) := fun o => HAL.out o _ _ (hd 0 y hy)
    have k3 : ∀ o, (w.alloc o).cell? (bd.add m2) = some (.int .u8 (q.toNat : Int)) := fun o => HAL.out o _ _ (hd _ q hq)
    have e8 : ((128 : Int) ≤ (K.n.length : Int)) = True := eq_true (by omega)
    clear hX hd hy hq hm2
    by_cases hX : 127 < y.toNat
    rotate_left
    · have e10 : ((127 : Int) < (y.toNat : Int)) = False := eq_false (by omega)
      clear hX
      go_enter Tryz.func22, Tryz.ntmps22
      go_upto_region 3 with fail
      simp only [List.append_eq, List.cons_append, List.nil_append, List.append]
      go_wp2_with fail
      all_goals
        go_ret
        exact fit_no ((Below.refl _ _).alloc (Nat.le_refl _) _)
    have HY1 := Lib.hid hX
    have e10 : ((127 : Int) < (y.toNat : Int)) = True := eq_true (by omega)
    clear hX
    by_cases hX : q.toNat % 2 = 1
    rotate_left
    · have e11 : bits .and .u8 (q.toNat : Int) 1 = 0 := by rw [and_1_of _ q.toNat_lt, show q.toNat % 2 = 0 by omega]; rfl
      clear hX
      go_enter Tryz.func22, Tryz.ntmps22
      go_upto_region 3 with fail
      simp only [List.append_eq, List.cons_append, List.nil_append, List.append]
      go_wp2_with fail
      all_goals
        go_ret
        exact fit_no ((Below.refl _ _).alloc (Nat.le_refl _) _)
    have e11 : bits .and .u8 (q.toNat : Int) 1 = 1 := by rw [and_1_of _ q.toNat_lt, hX]; rfl
    clear hX
    go_enter Tryz.func22, Tryz.ntmps22
    go_upto_region 3 with fail
    simp only [List.append_eq, List.cons_append, List.nil_append, List.append]
    go_wp2_with fail
    go_ret
    exact ⟨⟨true, rfl, fun _ => Or.inr (Or.inl ⟨HK0.out, HPT.out, HAP.out, ⟨x, l, HX.out.1, HX.out.2, HX0.out, HX1.out, HOR.out⟩, HG2.out, HG3.out, HG4.out, ⟨y, HY.out, HY1.out⟩⟩)⟩, (Below.refl _ _).alloc (Nat.le_refl _) _⟩
  have HOR := Lib.hid (show 1 < K.e.length ∨ 2 < x.toNat from Or.inl hY)
  have e71 : ((1 : Int) < (K.e.length : Int)) = True := eq_true (by omega)
  have e72 : (1 < K.e.length) = True := eq_true hY
  clear hY
  by_cases hX : K.n.length ≤ 512
  rotate_left
  · have e9 : ((K.n.length : Int) ≤ 512) = False := eq_false (by omega)
    clear hX
    go_enter Tryz.func22, Tryz.ntmps22
    go_upto_region 3 with fail
    simp only [List.append_eq, List.cons_append, List.nil_append, List.append]
    go_wp2_with fail
    all_goals
      go_ret
      exact fit_no ((Below.refl _ _).alloc (Nat.le_refl _) _)
  have HG4 := Lib.hid hX
  have e9 : ((K.n.length : Int) ≤ 512) = True := eq_true (by omega)
  clear hX
  by_cases hX : 128 ≤ K.n.length
  rotate_left
  · have e8 : ((128 : Int) ≤ (K.n.length : Int)) = False := eq_false (by omega)
    clear hX
    go_enter Tryz.func22, Tryz.ntmps22
    go_upto_region 3 with fail
    simp only [List.append_eq, List.cons_append, List.nil_append, List.append]
    go_wp2_with fail
    all_goals
      go_ret
      exact fit_no ((Below.refl _ _).alloc (Nat.le_refl _) _)
  have HG3 := Lib.hid hX
  obtain ⟨bd, rfl, _, hd⟩ := RB.at H4.out (by omega)
  obtain ⟨y, hy⟩ : ∃ y, K.n[0]? = some y := ⟨_, List.getElem?_eq_getElem (by omega)⟩
  obtain ⟨q, hq⟩ : ∃ q, K.n[K.n.length - 1]? = some q := ⟨_, List.getElem?_eq_getElem (by omega)⟩
  obtain ⟨m2, hm2⟩ : ∃ m, m = K.n.length - 1 := ⟨_, rfl⟩
  have hs2 : (K.n.length : Int) - 1 = (m2 : Int) := by omega
  have hm2l : m2 < K.n.length := by omega
  have hw2 : wrap64 (m2 : Int) = (m2 : Int) := by have h9 := HG4.out; unfold wrap64; omega
  have hn0 : 0 < K.n.length := by omega
  have HY := Lib.hid hy
  rw [← hm2] at hq
  have k2 : ∀ o, (w.alloc o).cell? bd = some (.int .u8 (y.toNat : Int)) := fun o => HAL.out o _ _ (hd 0 y hy)
  have k3 : ∀ o, (w.alloc o).cell? (bd.add m2) = some (.int .u8 (q.toNat : Int)) := fun o => HAL.out o _ _ (hd _ q hq)
  have e8 : ((128 : Int) ≤ (K.n.length : Int)) = True := eq_true (by omega)
  clear hX hd hy hq hm2
  by_cases hX : 127 < y.toNat
  rotate_left
  · have e10 : ((127 : Int) < (y.toNat : Int)) = False := eq_false (by omega)
    clear hX
    go_enter Tryz.func22, Tryz.ntmps22
    go_upto_region 3 with fail
    simp only [List.append_eq, List.cons_append, List.nil_append, List.append]
    go_wp2_with fail
    all_goals
      go_ret
      exact fit_no ((Below.refl _ _).alloc (Nat.le_refl _) _)
  have HY1 := Lib.hid hX
  have e10 : ((127 : Int) < (y.toNat : Int)) = True := eq_true (by omega)
  clear hX
  by_cases hX : q.toNat % 2 = 1
  rotate_left
  · have e11 : bits .and .u8 (q.toNat : Int) 1 = 0 := by rw [and_1_of _ q.toNat_lt, show q.toNat % 2 = 0 by omega]; rfl
    clear hX
    go_enter Tryz.func22, Tryz.ntmps22
    go_upto_region 3 with fail
    simp only [List.append_eq, List.cons_append, List.nil_append, List.append]
    go_wp2_with fail
    all_goals
      go_ret
      exact fit_no ((Below.refl _ _).alloc (Nat.le_refl _) _)
  have e11 : bits .and .u8 (q.toNat : Int) 1 = 1 := by rw [and_1_of _ q.toNat_lt, hX]; rfl
  clear hX
  go_enter Tryz.func22, Tryz.ntmps22
  go_upto_region 3 with fail
  simp only [List.append_eq, List.cons_append, List.nil_append, List.append]
  go_wp2_with fail
  go_ret
  exact ⟨⟨true, rfl, fun _ => Or.inr (Or.inl ⟨HK0.out, HPT.out, HAP.out, ⟨x, l, HX.out.1, HX.out.2, HX0.out, HX1.out, HOR.out⟩, HG2.out, HG3.out, HG4.out, ⟨y, HY.out, HY1.out⟩⟩)⟩, (Below.refl _ _).alloc (Nat.le_refl _) _⟩

end Go.Proofs.YtoeepfmmceilaaaGreatDoor
