/- spec.typeName, keyBody of any kind of keys. -/
import Derived.Test.YtoeepfmmceilaaaGreatDoorLnMul
import Derived.Test.YtoeepfmmceilaaaGreatDoorLnKeyP
import Derived.Test.YtoeepfmmceilaaaGreatDoorLnLine
set_option linter.unusedVariables false
set_option linter.unusedSimpArgs false
namespace Go.Proofs.YtoeepfmmceilaaaGreatDoor
open Go.RowKit

theorem conv_new2_ (W : World) (s : List UInt8) (t : TypeId) (ht : Tryz.prog.underlying t = some .string) (hs : s.length ≤ 1000000) : ∃ W' A c, (convert t 28 (.string ⟨s.toArray⟩)).run Tryz.prog W = .ok (.slice A s.length c) W' ∧ s.length ≤ c ∧ c ≤ 9223372036854775807 ∧ RR (lit byteV) all_ W' A s ∧ Below W.heap.size W W' := by
  have hr := Lib.run_convert_string_bytes (P := Tryz.prog) W t 28 5 ⟨s.toArray⟩ ht Tryz.underlying28 Tryz.underlying5
  have hsz : (⟨s.toArray⟩ : ByteArray).size = s.length := by simp [ByteArray.size]
  rw [hsz] at hr
  have h1 : grownCap W s.length 0 5 ≤ maxLen := grownCap_le_maxLen W s.length 0 5 (by show s.length ≤ 9223372036854775807; omega)
  exact ⟨_, _, _, hr, grownCap_ge _ _ _ _, h1, (conv_RR W s).mono (lit_steady _) (fun _ _ _ => trivial), conv_below W s⟩
def nameRsa : List UInt8 := [115, 115, 104, 45, 114, 115, 97]
def nameSk : List UInt8 := [115, 107, 45, 115, 115, 104, 45, 101, 100, 50, 53, 53, 49, 57, 64, 111, 112, 101, 110, 115, 115, 104, 46, 99, 111, 109]
def nameK (k : Int) : List UInt8 := if k = 1 then nameRsa else if k = 2 then nameSk else nameEd
def keyBodyP (K : KeyP) : List UInt8 := if K.kind = 1 then mulP K.e ++ mulP K.n else if K.kind = 2 then strP K.pt ++ strP K.app else strP K.pt
def keyBytesP (K : KeyP) : List UInt8 := strP (nameK K.kind) ++ keyBodyP K
theorem nameK_len (k : Int) : (nameK k).length ≤ 26 := by
  unfold nameK
  split
  · decide
  · split <;> decide
theorem typeName_walk (k : Int) (hk : k = 0 ∨ k = 1 ∨ k = 2) (w : World) : Calls Tryz.prog 49 #[.int .i64 k] w fun e w' => e = .returned (.string ⟨(nameK k).toArray⟩) ∧ Below w.heap.size w w' := by
  rcases hk with rfl | rfl | rfl
  all_goals
    go_enter Tryz.func49, Tryz.ntmps49
    go_wp2_with fail
    go_ret
    exact ⟨rfl, (Below.refl _ _).alloc (Nat.le_refl _) _⟩

/-- The five cells of a key that is boxed, as long as nothing else of that block is written. -/
structure Box5 (w : World) (v0 v1 v2 v3 v4 : Value) (W : World) : Prop where
  k0 : W.cell? ⟨w.heap.size, 0, none⟩ = some v0
  k1 : W.cell? ⟨w.heap.size, 1, none⟩ = some v1
  k2 : W.cell? ⟨w.heap.size, 2, none⟩ = some v2
  k3 : W.cell? ⟨w.heap.size, 3, none⟩ = some v3
  k4 : W.cell? ⟨w.heap.size, 4, none⟩ = some v4
  below : Below w.heap.size w W
theorem box5 (w : World) (v0 v1 v2 v3 v4 : Value) {W : World} (h : Below (w.heap.size + 1) (w.alloc (.cells #[v0, v1, v2, v3, v4] 44)) W) : Box5 w v0 v1 v2 v3 v4 W := by
  have hk : Blk W w.heap.size 44 #[v0, v1, v2, v3, v4] := (h.block w.heap.size (by omega)).trans (Blk.new w _ _)
  exact ⟨hk.cell 0, hk.cell 1, hk.cell 2, hk.cell 3, hk.cell 4, ((Below.refl _ _).alloc (Nat.le_refl _) _).trans (h.mono (by omega))⟩
theorem below1 {w : World} {o : Obj} {W : World} (h : Below (w.alloc o).heap.size (w.alloc o) W) : Below (w.heap.size + 1) (w.alloc o) W := by
  have e : (w.alloc o).heap.size = w.heap.size + 1 := by simp
  rw [e] at h
  exact h
set_option maxRecDepth 100000 in
set_option maxHeartbeats 1600000 in
theorem keyBody_rsa (ok : Nat → Prop) (v : Value) (K : KeyP) (w : World) (hkd : K.kind = 1) (he : K.e.length ≤ 1000) (hn : K.n.length ≤ 1000) (hk : KeyAt ok w v K) : Calls Tryz.prog 50 #[v] w (NewS w (mulP K.e ++ mulP K.n)) := by
  obtain ⟨A0, c0, A1, c1, A2, c2, rfl, h1, h2, h3, h4⟩ := hk
  rw [hkd]
  obtain ⟨v0, hv0⟩ : ∃ v : Value, v = .slice A0 K.pt.length c0 := ⟨_, rfl⟩
  obtain ⟨v2, hv2⟩ : ∃ v : Value, v = .string ⟨K.app.toArray⟩ := ⟨_, rfl⟩
  obtain ⟨x, hx⟩ : ∃ x, x = K.e := ⟨_, rfl⟩
  obtain ⟨n, hnn⟩ : ∃ n, n = K.n := ⟨_, rfl⟩
  rw [← hx] at h1 h3 he ⊢
  rw [← hnn] at h1 h4 hn ⊢
  obtain ⟨_, hc1, hc2, _⟩ := h1.out
  have M1 := Lib.hid (fun (W : World) (hb : Below w.heap.size w W) => multi_walk ok A1 c1 x W (by omega) hc1 (h3.out.keep (lit_steady _) (Keep.of_below hb)))
  have M2 := Lib.hid (fun (W : World) (hb : Below w.heap.size w W) => multi_walk ok A2 c2 n W (by omega) hc2 (h4.out.keep (lit_steady _) (Keep.of_below hb)))
  have l1 := mulP_len x
  have l2 := mulP_len n
  obtain ⟨a, ha⟩ : ∃ a, a = mulP x := ⟨_, rfl⟩
  obtain ⟨b, hb⟩ : ∃ b, b = mulP n := ⟨_, rfl⟩
  rw [← ha] at M1 l1 ⊢
  rw [← hb] at M2 l2 ⊢
  have HFL := Lib.hid (show ([a, b]).flatten.length ≤ 70368744177664 by simp; omega)
  have HN2 := Lib.hid (show ([a, b]).length ≤ 70368744177664 by show (2 : Nat) ≤ _; omega)
  have BX := Lib.hid (fun (W : World) (h : Below (w.heap.size + 1) (w.alloc (.cells #[.int .i64 1, .slice A0 K.pt.length c0, .string ⟨K.app.toArray⟩, .slice A1 x.length c1, .slice A2 n.length c2] 44)) W) => box5 w _ _ _ _ _ h)
  have HB0 := Lib.hid (show Below w.heap.size w (w.alloc (.cells #[.int .i64 1, .slice A0 K.pt.length c0, .string ⟨K.app.toArray⟩, .slice A1 x.length c1, .slice A2 n.length c2] 44)) from (Below.refl _ _).alloc (Nat.le_refl _) _)
  rw [← hv0, ← hv2] at BX HB0 ⊢
  have ho0 : v0.oneCell' = true := by rw [hv0]; rfl
  have ho2 : v2.oneCell' = true := by rw [hv2]; rfl
  clear h1 h2 h3 h4 hc1 hc2 l1 l2 ha hb hx hnn he hn hv0 hv2
  go_enter Tryz.func50, Tryz.ntmps50
  go_wp2_with fail
  go_region_law (first
    | (go_simp; go_at_call 75; (fail_if_success (have hh := H5.out)); refine (M1.out _ (by have q := HB0.out; exact ⟨q.os, q.tape, q.output, q.size, q.block⟩)).mono ?_; rintro e w1 ⟨A3, c3, rfl, h5, h6, h7, h8⟩; have hbx : Below (w.heap.size + 1) (w.alloc (.cells #[.int .i64 1, v0, v2, .slice A1 x.length c1, .slice A2 n.length c2] 44)) w1 := (by have q := h8; exact ⟨q.os, q.tape, q.output, by simpa using q.size, fun k hk => q.block k (by simpa using hk)⟩); obtain ⟨j0, j1, j2, j3, j4, hbb⟩ := BX.out w1 hbx; have H5 := Lib.hid h5; have H67 := Lib.hid (And.intro h6 h7); have HBX := Lib.hid hbx; have HBB := Lib.hid hbb; clear h5 h6 h7 h8 hbx hbb)
    | (go_simp; go_at_call 75; refine (M2.out _ HBB.out).mono ?_; rintro e w2 ⟨A4, c4, rfl, h9, h10, h11, h12⟩; obtain ⟨i0, i1, i2, i3, i4, hb2⟩ := BX.out w2 (HBX.out.trans (h12.mono (by have := HBX.out.size; simpa using this))); have H9 := Lib.hid h9; have H1011 := Lib.hid (And.intro h10 h11); have H12 := Lib.hid h12; have HB2 := Lib.hid hb2; clear h9 h10 h11 h12 hb2)
    | (go_simp; go_at_call 47; refine (news_of (join_new all_ (some ⟨w2.heap.size, 0, none⟩) 2 [a, b] _ HFL.out HN2.out (RR_two (Blk.new _ _ _) trivial ⟨A3, c3, rfl, H67.out.1, H67.out.2, (RR.keep (own_RR H5.out (fun _ _ => trivial)) (lit_steady _) ((Keep.of_below H12.out).alloc _))⟩ ⟨A4, c4, rfl, H1011.out.1, H1011.out.2, (RR.keep (own_RR H9.out (fun _ _ => trivial)) (lit_steady _) ((Keep.refl _ _).alloc _))⟩))).mono ?_; rintro e w4 ⟨A5, c5, rfl, h13, h14, h15, h16⟩; have H13 := Lib.hid h13; have H1415 := Lib.hid (And.intro h14 h15); have H16 := Lib.hid h16; clear h13 h14 h15 h16))
  all_goals
    go_wp2_with fail
    go_ret
    have hfl : ([a, b]).flatten.length = a.length + b.length := by simp
    have he : a ++ b = [a, b].flatten := by simp
    have hz2 : w.heap.size ≤ w2.heap.size := HB2.out.size
    rw [he]
    refine ⟨A5, c5, by rw [hfl]; rfl, own_base H13.out (by simp; omega), H1415.out.1, H1415.out.2, ?_⟩
    exact (HB2.out.alloc hz2 _).trans (H16.out.mono (by simp; omega))

set_option maxRecDepth 100000 in
set_option maxHeartbeats 1600000 in
theorem keyBody_tok (ok : Nat → Prop) (v : Value) (K : KeyP) (w : World) (hkd : K.kind = 2) (he : K.pt.length ≤ 1000) (hn : K.app.length ≤ 1000) (hk : KeyAt ok w v K) : Calls Tryz.prog 50 #[v] w (NewS w (strP K.pt ++ strP K.app)) := by
  obtain ⟨A0, c0, A1, c1, A2, c2, rfl, h1, h2, h3, h4⟩ := hk
  rw [hkd]
  obtain ⟨v3, hv3⟩ : ∃ v : Value, v = .slice A1 K.e.length c1 := ⟨_, rfl⟩
  obtain ⟨v4, hv4⟩ : ∃ v : Value, v = .slice A2 K.n.length c2 := ⟨_, rfl⟩
  obtain ⟨x, hx⟩ : ∃ x, x = K.pt := ⟨_, rfl⟩
  obtain ⟨n, hnn⟩ : ∃ n, n = K.app := ⟨_, rfl⟩
  rw [← hx] at h1 h2 he ⊢
  rw [← hnn] at hn ⊢
  obtain ⟨hc0, _, _, _⟩ := h1.out
  have M1 := Lib.hid (fun (W : World) (hb : Below w.heap.size w W) => news_of (string_new ok A0 c0 x W (by omega) hc0 (h2.out.keep (lit_steady _) (Keep.of_below hb))))
  have M2 := Lib.hid (fun (W : World) (A : Option Addr) (c : Nat) (hc : n.length ≤ c) (hr : RR (lit byteV) all_ W A n) => news_of (string_new all_ A c n W (by omega) hc hr))
  have HCV := Lib.hid (fun (W : World) => conv_new2_ W n 9 Tryz.underlying9 (by omega))
  obtain ⟨a, ha⟩ : ∃ a, a = strP x := ⟨_, rfl⟩
  obtain ⟨b, hb⟩ : ∃ b, b = strP n := ⟨_, rfl⟩
  have l1 : a.length ≤ 2000 := by rw [ha]; simp [strP, be4]; omega
  have l2 : b.length ≤ 2000 := by rw [hb]; simp [strP, be4]; omega
  rw [← ha] at M1 ⊢
  rw [← hb] at M2 ⊢
  have HFL := Lib.hid (show ([a, b]).flatten.length ≤ 70368744177664 by simp; omega)
  have HN2 := Lib.hid (show ([a, b]).length ≤ 70368744177664 by show (2 : Nat) ≤ _; omega)
  have BX := Lib.hid (fun (W : World) (h : Below (w.heap.size + 1) (w.alloc (.cells #[.int .i64 2, .slice A0 x.length c0, .string ⟨n.toArray⟩, .slice A1 K.e.length c1, .slice A2 K.n.length c2] 44)) W) => box5 w _ _ _ _ _ h)
  have HB0 := Lib.hid (show Below w.heap.size w (w.alloc (.cells #[.int .i64 2, .slice A0 x.length c0, .string ⟨n.toArray⟩, .slice A1 K.e.length c1, .slice A2 K.n.length c2] 44)) from (Below.refl _ _).alloc (Nat.le_refl _) _)
  rw [← hv3, ← hv4] at BX HB0 ⊢
  have ho3 : v3.oneCell' = true := by rw [hv3]; rfl
  have ho4 : v4.oneCell' = true := by rw [hv4]; rfl
  obtain ⟨WB, AB, cB, cv0, hcB, _, hrB, hbB⟩ := HCV.out (w.alloc (.cells #[.int .i64 2, .slice A0 x.length c0, .string ⟨n.toArray⟩, v3, v4] 44)).drew
  have hd0 : Below (w.heap.size + 1) (w.alloc (.cells #[.int .i64 2, .slice A0 x.length c0, .string ⟨n.toArray⟩, v3, v4] 44)) WB := by
    have q := hbB
    exact ⟨q.os, q.tape, q.output, by simpa using q.size, fun k hk => q.block k (by simpa using hk)⟩
  obtain ⟨d0, d1, d2, d3, d4, db⟩ := BX.out _ hd0
  have DB := Lib.hid db
  have HD0 := Lib.hid hd0
  have HRB := Lib.hid (And.intro hcB hrB)
  clear hd0 db hcB hrB hbB
  clear h1 h2 h3 h4 hc0 l1 l2 ha hb hx hnn he hn hv3 hv4
  go_enter Tryz.func50, Tryz.ntmps50
  go_wp2_with fail
  go_region_law (first
    | (go_simp; go_at_call 48; (fail_if_success (have hh := H5.out)); refine (M1.out WB DB.out).mono ?_; rintro e w1 ⟨A3, c3, rfl, h5, h6, h7, h8⟩; have hbx : Below (w.heap.size + 1) (w.alloc (.cells #[.int .i64 2, .slice A0 x.length c0, .string ⟨n.toArray⟩, v3, v4] 44)) w1 := HD0.out.trans (h8.mono (by have := HD0.out.size; simpa using this)); obtain ⟨j0, j1, j2, j3, j4, hbb⟩ := BX.out w1 hbx; obtain ⟨W7, A7, c7, cv1, hc7, _, hr7, hb7⟩ := HCV.out w1; obtain ⟨l0, l1, l2, l3, l4, lb⟩ := BX.out W7 (hbx.trans (hb7.mono (by have := hbx.size; simpa using this))); have H5 := Lib.hid h5; have H67 := Lib.hid (And.intro h6 h7); have H8 := Lib.hid h8; have HBX := Lib.hid hbx; have HBB := Lib.hid hbb; have HR7 := Lib.hid (And.intro hc7 (And.intro hr7 hb7)); clear h5 h6 h7 h8 hbx hbb lb hc7 hr7 hb7)
    | (go_simp; go_at_call 48; (fail_if_success (have hh := H5.out)); refine (M1.out (w.alloc (.cells #[.int .i64 2, .slice A0 x.length c0, .string ⟨n.toArray⟩, v3, v4] 44)).drew (by have q := HB0.out; exact ⟨q.os, q.tape, q.output, q.size, q.block⟩)).mono ?_; rintro e w1 ⟨A3, c3, rfl, h5, h6, h7, h8⟩; have hbx : Below (w.heap.size + 1) (w.alloc (.cells #[.int .i64 2, .slice A0 x.length c0, .string ⟨n.toArray⟩, v3, v4] 44)) w1 := (by have q := h8; exact ⟨q.os, q.tape, q.output, by simpa using q.size, fun k hk => q.block k (by simpa using hk)⟩); obtain ⟨j0, j1, j2, j3, j4, hbb⟩ := BX.out w1 hbx; obtain ⟨W7, A7, c7, cv1, hc7, _, hr7, hb7⟩ := HCV.out w1; obtain ⟨l0, l1, l2, l3, l4, lb⟩ := BX.out W7 (hbx.trans (hb7.mono (by have := hbx.size; simpa using this))); have H5 := Lib.hid h5; have H67 := Lib.hid (And.intro h6 h7); have H8 := Lib.hid h8; have HBX := Lib.hid hbx; have HBB := Lib.hid hbb; have HR7 := Lib.hid (And.intro hc7 (And.intro hr7 hb7)); clear h5 h6 h7 h8 hbx hbb lb hc7 hr7 hb7)
    | (go_simp; go_at_call 48; refine (M2.out W7 A7 c7 HR7.out.1 HR7.out.2.1).mono ?_; rintro e w2 ⟨A4, c4, rfl, h9, h10, h11, h12⟩; have h127 := HR7.out.2.2.trans (h12.mono HR7.out.2.2.size); obtain ⟨i0, i1, i2, i3, i4, hb2⟩ := BX.out w2 (HBX.out.trans (h127.mono (by have := HBX.out.size; simpa using this))); have H9 := Lib.hid h9; have H1011 := Lib.hid (And.intro h10 h11); have H12 := Lib.hid h127; have HB2 := Lib.hid hb2; clear h9 h10 h11 h12 hb2 h127)
    | (go_simp; go_at_call 48; refine (M2.out w1 AB cB HRB.out.1 (HRB.out.2.keep (lit_steady _) (Keep.of_below H8.out))).mono ?_; rintro e w2 ⟨A4, c4, rfl, h9, h10, h11, h12⟩; obtain ⟨i0, i1, i2, i3, i4, hb2⟩ := BX.out w2 (HBX.out.trans (h12.mono (by have := HBX.out.size; simpa using this))); have H9 := Lib.hid h9; have H1011 := Lib.hid (And.intro h10 h11); have H12 := Lib.hid h12; have HB2 := Lib.hid hb2; clear h9 h10 h11 h12 hb2)
    | (go_simp; go_at_call 47; refine (news_of (join_new all_ (some ⟨w2.heap.size, 0, none⟩) 2 [a, b] _ HFL.out HN2.out (RR_two (Blk.new _ _ _) trivial ⟨A3, c3, rfl, H67.out.1, H67.out.2, (RR.keep (own_RR H5.out (fun _ _ => trivial)) (lit_steady _) ((Keep.of_below H12.out).alloc _))⟩ ⟨A4, c4, rfl, H1011.out.1, H1011.out.2, (RR.keep (own_RR H9.out (fun _ _ => trivial)) (lit_steady _) ((Keep.refl _ _).alloc _))⟩))).mono ?_; rintro e w4 ⟨A5, c5, rfl, h13, h14, h15, h16⟩; have H13 := Lib.hid h13; have H1415 := Lib.hid (And.intro h14 h15); have H16 := Lib.hid h16; clear h13 h14 h15 h16))
  all_goals
    go_wp2_with fail
    go_ret
    have hfl : ([a, b]).flatten.length = a.length + b.length := by simp
    have he : a ++ b = [a, b].flatten := by simp
    have hz2 : w.heap.size ≤ w2.heap.size := HB2.out.size
    rw [he]
    refine ⟨A5, c5, by rw [hfl]; rfl, own_base H13.out (by simp; omega), H1415.out.1, H1415.out.2, ?_⟩
    exact (HB2.out.alloc hz2 _).trans (H16.out.mono (by simp; omega))

end Go.Proofs.YtoeepfmmceilaaaGreatDoor
