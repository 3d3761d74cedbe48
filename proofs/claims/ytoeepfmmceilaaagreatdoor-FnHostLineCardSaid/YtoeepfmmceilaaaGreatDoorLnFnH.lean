/- impl.HostLine. -/
import Derived.Test.YtoeepfmmceilaaaGreatDoorLnLinK
import Derived.Test.YtoeepfmmceilaaaGreatDoorLnWrL
import Derived.Test.YtoeepfmmceilaaaGreatDoorLnFnW
set_option linter.unusedVariables false
set_option linter.unusedSimpArgs false
namespace Go.Proofs.YtoeepfmmceilaaaGreatDoor
open Go.RowKit

def hostL (prs : List (List UInt8 × List UInt8)) (K : KeyP) : List UInt8 := joinP (prs.map normQ) ++ [32] ++ textP K
set_option maxRecDepth 100000 in
set_option maxHeartbeats 1600000 in
theorem hl1_walk (Ad : Option Addr) (cd : Nat) (prs : List (List UInt8 × List UInt8)) (T : TypeId) (u : Value) (K : KeyP) (w : World) (ga gk gs : Nat) (hf : FitK K) (hP : PubAt (fun b => b < w.heap.size) w (.iface T u) K) (hn : prs.length ≤ 5) (hq : ∀ q ∈ prs, HostOk q) (hr : RR (lit strV) (fun b => b < w.heap.size) w Ad (prs.map addrP))
    (ha : w.cell? ⟨ga, 0, none⟩ = some (.slice Ad prs.length cd)) (hk : w.cell? ⟨gk, 0, none⟩ = some (.iface T u)) (hs : Blk w gs 9 #[.string ⟨#[]⟩]) :
    Calls Tryz.prog 45 #[.pointer (some ⟨ga, 0, none⟩), .pointer (some ⟨gk, 0, none⟩), .pointer (some ⟨gs, 0, none⟩)] w fun e w' => e = .returned (.tuple #[]) ∧ Blk w' gs 9 #[.string ⟨(hostL prs K).toArray⟩] ∧ Keep (but gs) w w' := by
  have HLn := Lib.hid (fun (W : World) (A : Option Addr) (c : Nat) (hb : Below w.heap.size w W) (hr : RR (lit strV) (fun b => b < W.heap.size) W A (prs.map addrP)) => lineK_walk A c prs T u K W hf ((hP.keep (Keep.of_below hb)).mono (fun b hb _ => hb)) hn hq hr)
  obtain ⟨R, hR⟩ : ∃ R, R = hostL prs K := ⟨_, rfl⟩
  have hR2 : joinP (prs.map normQ) ++ [32] ++ textP K = R := by rw [hR]; rfl
  simp only [hR2] at HLn
  rw [← hR]
  obtain ⟨ads, hads⟩ : ∃ a, a = prs.map addrP := ⟨_, rfl⟩
  have hal : prs.length = ads.length := by rw [hads, List.length_map]
  simp only [← hads, hal] at HLn
  rw [← hads] at hr
  rw [hal] at ha hn
  have HR := Lib.hid hr
  have HS := Lib.hid hs
  have hgal := blk_lt_of_cell ha
  have hgkl := blk_lt_of_cell hk
  have a1 := cell_al ha
  have k1 := cell_al hk
  have GL := Lib.hid (And.intro hgal hgkl)
  clear hP hq hr hs hR hR2 hads hal hf hgal hgkl
  have HX := Lib.hid (show ∀ w3 : World, Below w.heap.size w w3 → w3.cell? ⟨ga, 0, none⟩ = some (.slice Ad ads.length cd) ∧ w3.cell? ⟨gk, 0, none⟩ = some (.iface T u) ∧ w3.cell? ⟨gs, 0, none⟩ = some (.string ⟨#[]⟩) ∧ w3.frozen? ⟨gs, 0, none⟩ = false from fun w3 hb => ⟨(hb.cell (p := ⟨ga, 0, none⟩) GL.out.1).trans ha, (hb.cell (p := ⟨gk, 0, none⟩) GL.out.2).trans hk, Blk.cell ((hb.block gs HS.out.lt).trans HS.out) 0, Blk.frozen ((hb.block gs HS.out.lt).trans HS.out) 0⟩)
  go_enter Tryz.func45, Tryz.ntmps45
  go_wp2_with fail
  go_region_law (first
    | (refine step_append_RR rfl _ _ _ rfl w.heap.size 9 (.string .empty) 16 Tryz.underlying27 info_str rfl (.slice (some ⟨w.heap.size, 0, none⟩) 0 0) [] rfl (World.ownsRow_lit w.drew #[] 0 (Nat.le_refl _) (by decide) rfl) strV strV_one Ad cd ads rfl (RR.keep HR.out (lit_steady _) ((Keep.refl _ w).drew.alloc _)) (by simp; omega) (by simp; omega) (by simp) ?_; intro A3 c3 w3 hown3 hg3 hat3; have hb2 : Below w.drew.heap.size w.drew w3 := (((Below.refl _ _).alloc (Nat.le_refl _) _).grown hg3 (by simp) (fun k hk => (by have h9 : w.heap.size = k := (by simpa [Value.ownBlock] using hk); show w.heap.size ≤ k; omega))); have hb3 : Below w.heap.size w w3 := ⟨hb2.os, hb2.tape, hb2.output, hb2.size, hb2.block⟩; clear hb2; obtain ⟨x1, x2, x3, x4⟩ := HX.out w3 hb3; have HO3 := Lib.hid (show w3.ownsRow w.heap.size 9 1 (.slice A3 ads.length c3) ads.length (ads.map strV) by simpa using hown3); have HB3 := Lib.hid hb3; clear hown3 hg3 hat3 hb3)
    | (go_simp; go_at_call 46; refine (HLn.out w3 A3 c3 HB3.out ((own_RRs HO3.out rfl).mono (lit_steady _) (fun b _ hb => hb.2))).mono ?_; rintro e w4 ⟨rfl, h4⟩; have hb4 : Below w.heap.size w w4 := HB3.out.trans (h4.mono HB3.out.size); obtain ⟨y1, y2, y3, y4⟩ := HX.out w4 hb4; have HB4 := Lib.hid hb4; clear h4 hb4))
  all_goals
    go_wp2_with fail
    go_end0
    have K9 : Keep (but gs) w4 (w4.setCell ⟨gs, 0, none⟩ (.string ⟨R.toArray⟩)) := (Keep.refl _ _).setCell (fun _ hn => hn rfl) _
    exact ⟨rfl, Blk.set_ (show Blk w4 gs 9 #[.string ⟨#[]⟩] from (HB4.out.block gs HS.out.lt).trans HS.out) 0 _, (Keep.of_below HB4.out).trans K9⟩

set_option maxRecDepth 100000 in
set_option maxHeartbeats 1600000 in
theorem hostLine_walk (Ad : Option Addr) (cd : Nat) (prs : List (List UInt8 × List UInt8)) (A : Option Addr) (c : Nat) (K : KeyP) (w : World) (hf : FitK K) (hn : prs.length ≤ 5) (hq : ∀ q ∈ prs, HostOk q) (hra : RR (lit strV) (fun b => b < w.heap.size) w Ad (prs.map addrP)) (hr : RR (lit byteV) all_ w A (keyBytesP K)) :
    Calls Tryz.prog 23 #[.slice Ad prs.length cd, .slice A (keyBytesP K).length c] w fun e w' => e = .returned (.tuple #[.string ⟨(hostL prs K).toArray⟩, .bool true]) ∧ Below w.heap.size w w' := by
  have hmf : ∀ (fn : Fn) (first cap : Array Value) (w : World), (Instr.makeFunc fn first cap).run Tryz.prog w = .ok (.func fn first cap) w := fun _ _ _ _ => rfl
  obtain ⟨n, hnn⟩ : ∃ n, n = prs.length := ⟨_, rfl⟩
  obtain ⟨W1, hW1⟩ : ∃ W, W = (w.alloc (.cells #[.slice Ad n cd] 27)).alloc (.cells #[.string ⟨#[]⟩] 9) := ⟨_, rfl⟩
  have hz1 : W1.heap.size = w.heap.size + 2 := by rw [hW1]; simp
  have hb1 : Below w.heap.size w W1 := by rw [hW1]; exact ((Below.refl _ _).alloc (Nat.le_refl _) _).alloc (by simp) _
  have hA1 : Blk W1 w.heap.size 27 #[.slice Ad n cd] := by rw [hW1]; exact (Blk.new w _ _).alloc _
  have hG1 : Blk W1 (w.heap.size + 1) 9 #[.string ⟨#[]⟩] := by
    rw [hW1]
    have := Blk.new (w.alloc (.cells #[.slice Ad n cd] 27)) 9 #[.string ⟨#[]⟩]
    simpa using this
  have HPW := Lib.hid (parsed_walk A c K W1 hf (hr.keep (lit_steady _) (Keep.of_below hb1)))
  have HWL := Lib.hid (fun (T : TypeId) (u : Value) (W : World) (gk : Nat) (hP : PubAt (fun b => b < W.heap.size) W (.iface T u) K) (hr : RR (lit strV) (fun b => b < W.heap.size) W Ad (prs.map addrP)) => hl1_walk Ad cd prs T u K W w.heap.size gk (w.heap.size + 1) hf hP hn hq hr)
  have HRA := Lib.hid hra
  obtain ⟨R, hR⟩ : ∃ R, R = hostL prs K := ⟨_, rfl⟩
  obtain ⟨ads, hads⟩ : ∃ a, a = prs.map addrP := ⟨_, rfl⟩
  obtain ⟨kb, hkb⟩ : ∃ L, L = keyBytesP K := ⟨_, rfl⟩
  simp only [← hR, ← hads, ← hnn, ← hkb] at HPW HWL HRA ⊢
  have HB1 := Lib.hid hb1
  have HG1 := Lib.hid (And.intro hA1 (And.intro hG1 hz1))
  have HW1 := Lib.hid hW1
  clear hr hra hf hn hq hR hads hnn hkb hb1 hA1 hG1 hW1 hz1
  go_enter Tryz.func23, Tryz.ntmps23
  go_upto_region 4 with (go_at_call 44; rw [← HW1.out]; refine HPW.out.mono ?_; rintro e w2 ⟨T, u, rfl, h1, h2⟩; have H1 := Lib.hid h1; have H2 := Lib.hid h2; clear h1 h2)
  obtain ⟨W4, hW4⟩ : ∃ W, W = w2.alloc (.cells #[.iface T u] 70) := ⟨_, rfl⟩
  rw [← hW4]
  have z4 : W4.heap.size = w2.heap.size + 1 := by rw [hW4]; simp
  have b4 : Below w2.heap.size w2 W4 := by rw [hW4]; exact (Below.refl _ _).alloc (Nat.le_refl _) _
  have k4 : Blk W4 w2.heap.size 70 #[.iface T u] := by rw [hW4]; exact Blk.new _ _ _
  clear hW4
  have bn : Below W4.heap.size W4 (W4.alloc (.cells #[.bool false] 4)) := (Below.refl _ _).alloc (Nat.le_refl _) _
  have zn : (W4.alloc (.cells #[.bool false] 4)).heap.size = w2.heap.size + 2 := by simp [z4]
  have c2' : Below w.heap.size w w2 := HB1.out.trans (H2.out.mono HB1.out.size)
  have c4 : Below w.heap.size w (W4.alloc (.cells #[.bool false] 4)) := (c2'.trans (b4.mono c2'.size)).trans (bn.mono (Nat.le_trans c2'.size b4.size))
  have hz := HG1.out.2.2
  have hlt2 : W1.heap.size ≤ w2.heap.size := H2.out.size
  have c14 : Below W1.heap.size W1 (W4.alloc (.cells #[.bool false] 4)) := (H2.out.trans (b4.mono hlt2)).trans (bn.mono (Nat.le_trans hlt2 b4.size))
  have a4 : Blk (W4.alloc (.cells #[.bool false] 4)) w.heap.size 27 #[.slice Ad n cd] := (c14.block _ (by omega)).trans HG1.out.1
  have g4 : Blk (W4.alloc (.cells #[.bool false] 4)) (w.heap.size + 1) 9 #[.string ⟨#[]⟩] := (c14.block _ (by omega)).trans HG1.out.2.1
  have p4 : PubAt (fun b => b < (W4.alloc (.cells #[.bool false] 4)).heap.size) (W4.alloc (.cells #[.bool false] 4)) (.iface T u) K := (((H1.out.mono (ok' := fun b => b < w2.heap.size) (fun b hb _ => hb)).keep (Keep.of_below b4)).mono (ok' := fun b => b < W4.heap.size) (fun b hb _ => hb)).keep (Keep.of_below bn) |>.mono (fun b hb _ => hb)
  have hcl := HWL.out T u (W4.alloc (.cells #[.bool false] 4)) w2.heap.size p4 ((HRA.out.keep (lit_steady _) (Keep.of_below c4)).mono (lit_steady _) (fun b hb _ => hb)) (a4.cell 0) ((k4.alloc _).cell 0) g4
  have HC := Lib.hid (calm_walk 45 #[.pointer (some ⟨w.heap.size, 0, none⟩), .pointer (some ⟨w2.heap.size, 0, none⟩), .pointer (some ⟨w.heap.size + 1, 0, none⟩)] W4 (fun W => Blk W (w.heap.size + 1) 9 #[.string ⟨R.toArray⟩] ∧ Below w.heap.size w W) (fun W => by kernel_rfl)
    (hcl.mono fun e w' ⟨h0, h1, h3⟩ => by
      have hnb := (Blk.new W4 4 #[.bool false]).keep h3 (show W4.heap.size ≠ w.heap.size + 1 by omega)
      exact ⟨h0, hnb.cell 0, hnb.frozen 0, h1, c4.trans (below_but h3 c4.size (by omega))⟩))
  have HZ := Lib.hid (And.intro z4 (And.intro hz hlt2))
  clear hcl z4 b4 k4 bn zn c2' c4 hz hlt2 g4 p4 a4 c14
  go_upto_region 5 with (go_at_call 35; refine HC.out.mono ?_; rintro e w5 ⟨rfl, w6, ⟨h4, h6⟩, hw5⟩; have H4 := Lib.hid h4; have H6 := Lib.hid h6; have HW5 := Lib.hid hw5; clear h4 h6 hw5)
  have K65 : Keep (but W4.heap.size) w6 w5 := by rw [HW5.out]; exact (Keep.refl _ _).setCell (fun _ hn => hn rfl) _
  have hz := HZ.out
  have g5 : Blk w5 (w.heap.size + 1) 9 #[.string ⟨R.toArray⟩] := H4.out.keep K65 (show _ ≠ _ by omega)
  have HB5 := Lib.hid (show Below w.heap.size w w5 from H6.out.trans (below_but K65 H6.out.size (by omega)))
  have k0 : w5.cell? ⟨w.heap.size + 1, 0, none⟩ = some (.string ⟨R.toArray⟩) := g5.cell 0
  have f0 := g5.frozen 0
  have q0 : (w5.setCell ⟨w.heap.size + 1, 0, none⟩ (.string ⟨R.toArray⟩)).cell? ⟨w.heap.size + 1, 0, none⟩ = some (.string ⟨R.toArray⟩) := (g5.set_ 0 _).cell 0
  clear K65 hz
  go_wp2_with fail
  have K9 : Keep (but (w.heap.size + 1)) w5 (w5.setCell ⟨w.heap.size + 1, 0, none⟩ (.string ⟨R.toArray⟩)) := (Keep.refl _ _).setCell (fun _ hn => hn rfl) _
  exact bodyPost_ret (v := .tuple #[.string ⟨R.toArray⟩, .bool true]) (by simp [results, Tryz.results23, go_sem, q0]) rfl ⟨rfl, HB5.out.trans (below_but K9 HB5.out.size (by omega))⟩

end Go.Proofs.YtoeepfmmceilaaaGreatDoor
/- laws.FnHostLine: true of all hosts, ports and keys. -/
set_option linter.unusedVariables false
set_option linter.unusedSimpArgs false
namespace Go.Proofs.YtoeepfmmceilaaaGreatDoor
open Go.RowKit

theorem zzFits4_walk (ok : Nat → Prop) (A : Option Addr) (c : Nat) (xs : List (List UInt8)) (w : World) (hl : xs.length ≤ 9223372036854775807) (hr : RR (lit strV) ok w A xs) :
    Calls Tryz.prog 20 #[.slice A xs.length c] w fun e w' => (∃ b : Bool, e = .returned (.bool b) ∧ (b = true → ∀ x ∈ xs, x.length ≤ 2147483647)) ∧ w' = w := by
  have HR := Lib.hid hr
  clear hr
  go_enter Tryz.func20, Tryz.ntmps20
  by_cases hb : xs.length ≤ 2147483647
  rotate_left
  · have hd : (2147483647 < (xs.length : Int)) = True := eq_true (by omega)
    clear hb
    go_wp2_with fail
    go_ret
    exact ⟨⟨_, rfl, fun h => by cases h⟩, rfl⟩
  have hd : (2147483647 < (xs.length : Int)) = False := eq_false (by omega)
  have hl2 : xs.length ≤ 3000000000 := by omega
  clear hb hl
  go_wp2_with fail
  clear hd
  go_loopg [4, 10] xs.length (fun gk v4 v10 wr => ∃ k : Nat, v10 = .int .i64 (k : Int) ∧ k ≤ xs.length ∧ Hid (k + gk = xs.length) ∧ Hid (∀ x ∈ xs.take k, x.length ≤ 2147483647) ∧ wr = w)
  case atStart => exact ⟨0, rfl, by omega, by simp [Hid], fun x hx => by simp at hx, rfl⟩
  case round =>
    obtain ⟨k, rfl, hk, hgk, HX, rfl⟩ := hrel
    by_cases hlt : k < xs.length
    · obtain ⟨x, hx⟩ : ∃ x, xs[k]? = some x := ⟨_, List.getElem?_eq_getElem hlt⟩
      obtain ⟨ad, v, rfl, _, hcell, rfl⟩ := HR.out k x hx
      have hcx : wr.cell? (ad.add k) = some (.string ⟨x.toArray⟩) := hcell
      have HT := Lib.hid (show xs.take (k + 1) = xs.take k ++ [x] by rw [List.take_add_one, hx]; rfl)
      have z1 := size_list x
      clear hx hcell
      by_cases hb : x.length ≤ 2147483647
      rotate_left
      · have hd : (2147483647 < (x.length : Int)) = True := eq_true (by omega)
        clear hb
        go_wp2_with fail
        go_ret
        exact ⟨⟨_, rfl, fun h => by cases h⟩, rfl⟩
      · have hd : (2147483647 < (x.length : Int)) = False := eq_false (by omega)
        have HB := Lib.hid hb
        clear hb
        go_wp2_with fail
        go_roundg (gk - 1)
        case measure => have := hgk.out; omega
        case rel =>
          have hg := hgk.out
          refine ⟨k + 1, by go_num, by omega, show _ = _ by omega, fun y hy => ?_, rfl⟩
          rw [HT.out] at hy
          rcases List.mem_append.1 hy with hy | hy
          · exact HX.out y hy
          · obtain rfl : y = x := by simpa using hy
            exact HB.out
    · have hke : k = xs.length := by omega
      subst hke
      go_wp2_with fail
      go_ret
      refine ⟨⟨_, rfl, fun _ x hx => ?_⟩, rfl⟩
      have h1 := HX.out
      rw [List.take_length] at h1
      exact h1 x hx

theorem join_snoc (l : List (List UInt8)) (x : List UInt8) (h : l ≠ []) : joinP (l ++ [x]) = joinP l ++ 44 :: x := by
  match l, h with
  | a :: r, _ => simp [joinP]
def u16V (p : Nat) : Value := .int .u16 (p : Int)

/-- The pairs of hosts and ports, as texts. -/
def pairsP (hs : List (List UInt8)) (ps : List Nat) : List (List UInt8 × List UInt8) := List.zipWith (fun h p => (h, figP 5 p)) hs ps
theorem pairs_at {hs : List (List UInt8)} {ps : List Nat} {k : Nat} {h : List UInt8} {p : Nat} (hh : hs[k]? = some h) (hp : ps[k]? = some p) : (pairsP hs ps)[k]? = some (h, figP 5 p) := by
  unfold pairsP
  rw [List.getElem?_zipWith, hh, hp]
theorem pairs_len {hs : List (List UInt8)} {ps : List Nat} (h : ps.length = hs.length) : (pairsP hs ps).length = hs.length := by
  unfold pairsP
  rw [List.length_zipWith, h, Nat.min_self]
theorem host_ok {h : List UInt8} {p : Nat} (hh : namedP h = true) (hp : p < 65536) : HostOk (h, figP 5 p) := ⟨hh, fig_not 5 p (by omega), by have := figP_len 5 p; show (figP 5 p).length ≤ 100; omega⟩

set_option maxRecDepth 100000 in
set_option maxHeartbeats 3200000 in
theorem fn_hostLine (Ah Ap : Option Addr) (ch cp : Nat) (hs : List (List UInt8)) (ps : List Nat) (v : Value) (K : KeyP) (w : World) (hlh : hs.length ≤ 9223372036854775807) (hlp : ps.length ≤ 9223372036854775807) (hpb : ∀ p ∈ ps, p < 65536) (hrh : RR (lit strV) all_ w Ah hs) (hrp : RR (lit u16V) all_ w Ap ps) (hk : KeyAt all_ w v K) :
    Calls Tryz.prog 6 #[.slice Ah hs.length ch, .slice Ap ps.length cp, v] w fun e w' => e = .returned (.bool true) ∧ Below w.heap.size w w' := by
  have HK := Lib.hid hk
  have HRH := Lib.hid hrh
  have HRP := Lib.hid hrp
  have HPB := Lib.hid hpb
  obtain ⟨A0, c0, A1, c1, A2, c2, hv, h1, h2, h3, h4⟩ := hk
  obtain ⟨v1, e1⟩ : ∃ x : Value, x = .slice A0 K.pt.length c0 := ⟨_, rfl⟩
  obtain ⟨v2, e2⟩ : ∃ x : Value, x = .string ⟨K.app.toArray⟩ := ⟨_, rfl⟩
  obtain ⟨v3, e3⟩ : ∃ x : Value, x = .slice A1 K.e.length c1 := ⟨_, rfl⟩
  obtain ⟨v4, e4⟩ : ∃ x : Value, x = .slice A2 K.n.length c2 := ⟨_, rfl⟩
  obtain ⟨v0, e0⟩ : ∃ x : Value, x = .int .i64 K.kind := ⟨_, rfl⟩
  have o0 : v0.oneCell' = true := by rw [e0]; rfl
  have o1 : v1.oneCell' = true := by rw [e1]; rfl
  have o2 : v2.oneCell' = true := by rw [e2]; rfl
  have o3 : v3.oneCell' = true := by rw [e3]; rfl
  have o4 : v4.oneCell' = true := by rw [e4]; rfl
  rw [← e0, ← e1, ← e2, ← e3, ← e4] at hv
  subst hv
  clear e0 e1 e2 e3 e4 h1 h2 h3 h4 hrh hrp hpb
  obtain ⟨W1, hW1⟩ : ∃ W, W = w.alloc (.cells #[v0, v1, v2, v3, v4] 44) := ⟨_, rfl⟩
  have b1 : Below w.heap.size w W1 := by rw [hW1]; exact (Below.refl _ _).alloc (Nat.le_refl _) _
  have g1 : Blk W1 w.heap.size 44 #[v0, v1, v2, v3, v4] := by rw [hW1]; exact Blk.new _ _ _
  have hz1 : W1.heap.size = w.heap.size + 1 := by rw [hW1]; simp
  have HB1 := Lib.hid b1
  have HG1 := Lib.hid g1
  have HW1 := Lib.hid hW1
  have HZ1 := Lib.hid hz1
  have k0 : W1.cell? ⟨w.heap.size, 0, none⟩ = some v0 := g1.cell 0
  have k1 : W1.cell? ⟨w.heap.size, 1, none⟩ = some v1 := g1.cell 1
  have k2 : W1.cell? ⟨w.heap.size, 2, none⟩ = some v2 := g1.cell 2
  have k3 : W1.cell? ⟨w.heap.size, 3, none⟩ = some v3 := g1.cell 3
  have k4 : W1.cell? ⟨w.heap.size, 4, none⟩ = some v4 := g1.cell 4
  have HF4 := Lib.hid (zzFits4_walk all_ Ah ch hs W1 hlh (HRH.out.keep (lit_steady _) (Keep.of_below b1)))
  have HZ := Lib.hid (zzFits1_walk all_ _ K W1 (HK.out.keep (Keep.of_below b1)))
  clear b1 g1 hW1 hz1
  go_enter Tryz.func6, Tryz.ntmps6
  go_wp2_with (go_at_call 20; rw [← HW1.out]; refine HF4.out.mono ?_; refine Hid.out ?_)
  refine Lib.hid ?_
  rintro e w2 ⟨⟨b, rfl, hb⟩, hw2⟩
  have hw2 := hw2.symm
  subst hw2
  cases b
  · go_wp2_with fail
    go_ret
    exact ⟨rfl, HB1.out⟩
  have HFT := Lib.hid (hb rfl)
  by_cases hpm : ps.length ≤ 2147483647
  rotate_left
  · have hd : (2147483647 < (ps.length : Int)) = True := eq_true (by omega)
    clear hb
    go_wp2_with fail
    go_ret
    exact ⟨rfl, HB1.out⟩
  have hd : (2147483647 < (ps.length : Int)) = False := eq_false (by omega)
  clear hb hlp hlh
  go_wp2_with (go_at_call 21; refine HZ.out.mono ?_; refine Hid.out ?_)
  refine Lib.hid ?_
  rintro e w2 ⟨⟨b, rfl, hb⟩, h2⟩
  have B2 : Below w.heap.size w w2 := HB1.out.trans (h2.mono HB1.out.size)
  cases b
  · go_wp2_with fail
    go_ret
    exact ⟨rfl, B2⟩
  obtain ⟨he, hn⟩ := hb rfl
  have G2 : Blk w2 w.heap.size 44 #[v0, v1, v2, v3, v4] := (h2.block _ HG1.out.lt).trans HG1.out
  have HF := Lib.hid (keyFits_all _ K w2 he hn (HK.out.keep (Keep.of_below B2)))
  have HB2 := Lib.hid B2
  have HG2 := Lib.hid G2
  have HZ2 := Lib.hid (Nat.le_trans (Nat.le_of_eq HZ1.out.symm) h2.size)
  clear k0 k1 k2 k3 k4 hb h2 B2 he hn hd
  have k0 : w2.cell? ⟨w.heap.size, 0, none⟩ = some v0 := G2.cell 0
  have k1 : w2.cell? ⟨w.heap.size, 1, none⟩ = some v1 := G2.cell 1
  have k2 : w2.cell? ⟨w.heap.size, 2, none⟩ = some v2 := G2.cell 2
  have k3 : w2.cell? ⟨w.heap.size, 3, none⟩ = some v3 := G2.cell 3
  have k4 : w2.cell? ⟨w.heap.size, 4, none⟩ = some v4 := G2.cell 4
  clear G2
  have hpm' := Lib.hid hpm
  clear hpm
  by_cases h0 : hs.length = 0
  · have hnil : hs = [] := List.eq_nil_of_length_eq_zero h0
    subst hnil
    clear h0
    go_wp2_with (go_at_call 10; refine (lines_walk _).mono ?_; rintro e w4 ⟨rfl, h4⟩; have H4 := Lib.hid h4; clear h4)
    go_ret
    exact ⟨rfl, HB2.out.trans (H4.out.mono HB2.out.size)⟩
  have z0 : ((hs.length : Int) == 0) = false := by simp only [beq_eq_false_iff_ne, ne_eq]; omega
  by_cases h5 : 5 < hs.length
  · have d5 : ((5 : Int) < (hs.length : Int)) = True := eq_true (by omega)
    go_wp2_with (go_at_call 10; refine (lines_walk _).mono ?_; rintro e w4 ⟨rfl, h4⟩; have H4 := Lib.hid h4; clear h4)
    go_ret
    exact ⟨rfl, HB2.out.trans (H4.out.mono HB2.out.size)⟩
  have d5 : ((5 : Int) < (hs.length : Int)) = False := eq_false (by omega)
  by_cases hm : ps.length = hs.length
  rotate_left
  · have z1 : ((ps.length : Int) == (hs.length : Int)) = false := by simp only [beq_eq_false_iff_ne, ne_eq]; omega
    have z2 : (ps.length == hs.length) = false := by simp only [beq_eq_false_iff_ne, ne_eq]; exact hm
    go_wp2_with (go_at_call 10; refine (lines_walk _).mono ?_; rintro e w4 ⟨rfl, h4⟩; have H4 := Lib.hid h4; clear h4)
    go_ret
    exact ⟨rfl, HB2.out.trans (H4.out.mono HB2.out.size)⟩
  have HM := Lib.hid hm
  have z1 : ((ps.length : Int) != (hs.length : Int)) = false := by rw [hm]; exact bne_self_eq_false _
  clear hm
  go_wp2_with (go_at_call 22; refine HF.out.mono ?_; refine Hid.out ?_)
  refine Lib.hid ?_
  unfold FitEnd
  rintro e w3 ⟨⟨b, rfl, hb⟩, h3⟩
  have B3 : Below w.heap.size w w3 := HB2.out.trans (h3.mono HB2.out.size)
  clear k0 k1 k2 k3 k4
  cases b
  · have HB3 := Lib.hid B3
    clear hb h3 B3
    go_wp2_with (go_at_call 10; refine (lines_walk _).mono ?_; rintro e w4 ⟨rfl, h4⟩; have H4 := Lib.hid h4; clear h4)
    go_ret
    exact ⟨rfl, HB3.out.trans (H4.out.mono HB3.out.size)⟩
  have hf := hb rfl
  have HFK := Lib.hid hf
  have hlen := pairs_len (hs := hs) (ps := ps) HM.out
  obtain ⟨prs, hprs⟩ : ∃ p, p = pairsP hs ps := ⟨_, rfl⟩
  have HPR := Lib.hid hprs
  rw [← hprs] at hlen
  have HLN := Lib.hid hlen
  have G3 : Blk w3 w.heap.size 44 #[v0, v1, v2, v3, v4] := (h3.block _ HG2.out.lt).trans HG2.out
  have HB3 := Lib.hid B3
  have HG3 := Lib.hid G3
  have hs5 : hs.length ≤ 5 := by omega
  have HZ3 := Lib.hid (Nat.le_trans HZ2.out h3.size)
  have hO0 : w3.ownsRow w3.heap.size 9 1 (.slice none 0 0) 0 (((prs.map addrP).take 0).map strV) := World.ownsRow_nil _ _ _ _
  clear hb h3 B3 G3 hf hlen hprs z0 z1 d5 h5 h0
  go_wp2_with fail
  go_loopg [7, 8, 9, 10, 49] hs.length (fun gk v7 v8 v9 v10 v49 wr => ∃ (Aa : Option Addr) (ca k : Nat) (J : List UInt8), v7 = .slice Aa k ca ∧ v8 = .string ⟨J.toArray⟩ ∧ v49 = .int .i64 (k : Int) ∧ k ≤ hs.length ∧ Hid (k + gk = hs.length) ∧ Hid (J = joinP ((prs.map normQ).take k)) ∧ Hid (∀ q ∈ prs.take k, HostOk q) ∧ Hid (wr.ownsRow w3.heap.size 9 1 (.slice Aa k ca) k (((prs.map addrP).take k).map strV)) ∧ Hid (Below w3.heap.size w3 wr))
  case atStart => exact ⟨none, 0, 0, [], rfl, rfl, rfl, by omega, by simp [Hid], rfl, fun q hq => by simp at hq, hO0, Below.refl _ _⟩
  case round =>
    clear hO0
    obtain ⟨Aa, ca, k, J, rfl, rfl, rfl, hk, hgk, HJ, HQ, HO, HB⟩ := hrel
    have HBW := Lib.hid (HB3.out.trans (HB.out.mono HB3.out.size))
    by_cases hlt : k < hs.length
    · obtain ⟨h, hh⟩ : ∃ h, hs[k]? = some h := ⟨_, List.getElem?_eq_getElem hlt⟩
      obtain ⟨p, hp⟩ : ∃ p, ps[k]? = some p := ⟨_, List.getElem?_eq_getElem (by rw [HM.out]; exact hlt)⟩
      have hpb := HPB.out p (List.mem_of_getElem? hp)
      have hqk : prs[k]? = some (h, figP 5 p) := by rw [HPR.out]; exact pairs_at hh hp
      have hhl := HFT.out h (List.mem_of_getElem? hh)
      obtain ⟨ad, v, rfl, _, hcell, rfl⟩ := HRH.out k h hh
      obtain ⟨ad2, v2', rfl, _, hcell2, rfl⟩ := HRP.out k p hp
      have HCX := Lib.hid (show ∀ W : World, Below w.heap.size w W → W.cell? (ad.add k) = some (.string ⟨h.toArray⟩) ∧ W.cell? (ad2.add k) = some (.int .u16 (p : Int)) from fun W hb => ⟨(hb.cell (blk_lt_of_cell hcell)).trans hcell, (hb.cell (blk_lt_of_cell hcell2)).trans hcell2⟩)
      obtain ⟨hcx, hcy⟩ := HCX.out wr HBW.out
      have hkp : k < ps.length := by rw [HM.out]; exact hlt
      have hki : ((k : Int) < (ps.length : Int)) = True := eq_true (by omega)
      have HNM := Lib.hid (fun W : World => named_walk h W hhl)
      clear hcell hcell2
      by_cases hnm : namedP h = true
      rotate_left
      · have hnf : namedP h = false := by simpa using hnm
        rw [hnf] at HNM
        clear hnm hnf hhl hqk hpb hh hp
        go_wp2_with (first
          | (go_at_call 14; refine (HNM.out _).mono ?_; rintro e w9 ⟨rfl, hw⟩; have hw := hw.symm; subst hw)
          | (go_at_call 10; refine (lines_walk _).mono ?_; rintro e w4 ⟨rfl, h4⟩; have H4 := Lib.hid h4; clear h4))
        go_ret
        exact ⟨rfl, HBW.out.trans (H4.out.mono HBW.out.size)⟩
      rw [hnm] at HNM
      have HHO := Lib.hid (host_ok hnm hpb)
      have HFG := Lib.hid (fun W : World => fig_walk 5 p W (by omega) (by omega))
      have hfl := figP_len 5 p
      obtain ⟨f, hf⟩ : ∃ f, f = figP 5 p := ⟨_, rfl⟩
      rw [← hf] at HFG hfl HHO hqk
      obtain ⟨_, _, hh60⟩ := named_all hnm
      have HNL := Lib.hid (fun W : World => normal_walk h f W (by omega) (by omega))
      have hJl : J.length ≤ 2000 := by
        rw [HJ.out]
        refine join_len (fun x hx => ?_) (by rw [List.length_take, List.length_map, HLN.out]; omega)
        rw [← List.map_take] at hx
        obtain ⟨q, hq, rfl⟩ := List.mem_map.1 hx
        exact normQ_len (HQ.out q hq)
      have hRl : (normP h f).length ≤ 200 := normQ_len HHO.out
      obtain ⟨R, hR⟩ : ∃ R, R = normP h f := ⟨_, rfl⟩
      obtain ⟨X, hX⟩ : ∃ X, X = h ++ 58 :: f := ⟨_, rfl⟩
      rw [← hR] at hRl
      simp only [← hR] at HNL
      have HQ2 := Lib.hid (show prs.take (k + 1) = prs.take k ++ [(h, f)] by rw [List.take_add_one, hqk]; rfl)
      have HL := Lib.hid (show ((prs.map addrP).take (k + 1)).map strV = ((prs.map addrP).take k).map strV ++ [strV X] by rw [List.take_add_one, List.getElem?_map, hqk, hX]; simp [addrP])
      have HN2 := Lib.hid (show (prs.map normQ).take (k + 1) = (prs.map normQ).take k ++ [R] by rw [List.take_add_one, List.getElem?_map, hqk, hR]; rfl)
      have HLL := Lib.hid (show (((prs.map addrP).take k).map strV).length = k by rw [List.length_map, List.length_take, List.length_map, HLN.out]; omega)
      obtain ⟨L, hL⟩ : ∃ L, L = ((prs.map addrP).take k).map strV := ⟨_, rfl⟩
      rw [← hL] at HL HO HLL
      have cX : (⟨h.toArray⟩ : ByteArray) ++ ⟨#[58]⟩ ++ ⟨f.toArray⟩ = ⟨X.toArray⟩ := by rw [hX, str_one, str_app]; simp
      have y1 := size_list h
      have y2 := size_list f
      have y3 := size_list J
      have y4 := size_list R
      have s1 : (9223372036854775807 < h.length + 1) = False := eq_false (by omega)
      have s2 : (9223372036854775807 < h.length + 1 + f.length) = False := eq_false (by omega)
      have s3 : (9223372036854775807 < J.length + 1) = False := eq_false (by omega)
      have s4 : (9223372036854775807 < J.length + 1 + R.length) = False := eq_false (by omega)
      have s5 : (9223372036854775807 < R.length) = False := eq_false (by omega)
      have hwp := congrArg (Value.int .i64) (show wrap64 (p : Int) = (p : Int) by unfold wrap64; omega)
      clear hnm hhl hqk hh hp hf hR hX hL hfl hh60 hJl hRl
      by_cases hk0 : k = 0
      · have hk1 : ((0 : Int) < (k : Int)) = False := eq_false (by omega)
        have hk1n : ¬ 0 < k := by omega
        have hJ0 : J = [] := by rw [HJ.out, hk0]; rfl
        have HK0 := Lib.hid hk0
        subst hJ0
        clear hk0
        have cJ : (⟨#[]⟩ : ByteArray) ++ ⟨R.toArray⟩ = ⟨R.toArray⟩ := str_app [] R
        go_wp2_with (first
          | (go_at_call 14; refine (HNM.out _).mono ?_; rintro e w9 ⟨rfl, hw⟩; have hw := hw.symm; subst hw)
          | (go_at_call 15; refine (HFG.out _).mono ?_; rintro e w9 ⟨rfl, hw⟩; have hw := hw.symm; subst hw)
          | (go_at_call 16; refine (HNL.out _).mono ?_; rintro e w9 ⟨rfl, hw⟩; have hw := hw.symm; subst hw)
          | (at_builtin; refine wpList_pushM rfl _ _ _ rfl w3.heap.size 9 (.string .empty) 16 Tryz.underlying27 info_str rfl (.slice Aa k ca) L k HLL.out rfl (own_move_ HO.out (fun j hj => Below.heap_alloc _ _ _ (HO.out.lt j hj).2)) wr.heap.size (strV X) rfl (Blk.new _ _ _) rfl (by omega) (by omega) (by have h9 := HB.out.size; simp; omega) ?_; intro A3 c3 w5 hown5 hg5 hat5; have HO5 := Lib.hid hown5; have hb5 : Below w3.heap.size w3 w5 := (HB.out.alloc HB.out.size _).grown hg5 (by have := HB.out.size; simp; omega) (fun j hj => own_block_lt_ HO.out hj); obtain ⟨x1, x2⟩ := HCX.out w5 (HB3.out.trans (hb5.mono HB3.out.size)); have HB5 := Lib.hid hb5; clear hown5 hg5 hat5 hb5))
        go_roundg (gk - 1)
        case measure => have := hgk.out; omega
        case rel =>
          have hg := hgk.out
          refine ⟨A3, c3, k + 1, R, rfl, rfl, by go_num, by omega, show _ = _ by omega, ?_, fun q hq => ?_, ?_, HB5.out⟩
          · show _ = _
            rw [HN2.out, HK0.out]
            simp [joinP]
          · rw [HQ2.out] at hq
            rw [HK0.out] at hq
            obtain rfl : q = (h, f) := by simpa using hq
            exact HHO.out
          · show World.ownsRow _ _ _ _ _ _ _
            rw [HL.out]
            exact HO5.out
      · have hk1 : ((0 : Int) < (k : Int)) = True := eq_true (by omega)
        have hk1n : 0 < k := by omega
        have cJ : (⟨J.toArray⟩ : ByteArray) ++ ⟨#[44]⟩ ++ ⟨R.toArray⟩ = ⟨(J ++ 44 :: R).toArray⟩ := by rw [str_one, str_app]; simp
        clear hk0
        go_wp2_with (first
          | (go_at_call 14; refine (HNM.out _).mono ?_; rintro e w9 ⟨rfl, hw⟩; have hw := hw.symm; subst hw)
          | (go_at_call 15; refine (HFG.out _).mono ?_; rintro e w9 ⟨rfl, hw⟩; have hw := hw.symm; subst hw)
          | (go_at_call 16; refine (HNL.out _).mono ?_; rintro e w9 ⟨rfl, hw⟩; have hw := hw.symm; subst hw)
          | (at_builtin; refine wpList_pushM rfl _ _ _ rfl w3.heap.size 9 (.string .empty) 16 Tryz.underlying27 info_str rfl (.slice Aa k ca) L k HLL.out rfl (own_move_ HO.out (fun j hj => Below.heap_alloc _ _ _ (HO.out.lt j hj).2)) wr.heap.size (strV X) rfl (Blk.new _ _ _) rfl (by omega) (by omega) (by have h9 := HB.out.size; simp; omega) ?_; intro A3 c3 w5 hown5 hg5 hat5; have HO5 := Lib.hid hown5; have hb5 : Below w3.heap.size w3 w5 := (HB.out.alloc HB.out.size _).grown hg5 (by have := HB.out.size; simp; omega) (fun j hj => own_block_lt_ HO.out hj); obtain ⟨x1, x2⟩ := HCX.out w5 (HB3.out.trans (hb5.mono HB3.out.size)); have HB5 := Lib.hid hb5; clear hown5 hg5 hat5 hb5))
        go_roundg (gk - 1)
        case measure => have := hgk.out; omega
        case rel =>
          have hg := hgk.out
          refine ⟨A3, c3, k + 1, J ++ 44 :: R, rfl, rfl, by go_num, by omega, show _ = _ by omega, ?_, fun q hq => ?_, ?_, HB5.out⟩
          · show _ = _
            rw [HN2.out, join_snoc _ _ (fun e => by have h1 := congrArg List.length e; rw [List.length_take, List.length_map, HLN.out, List.length_nil] at h1; omega), HJ.out]
          · rw [HQ2.out] at hq
            rcases List.mem_append.1 hq with hq | hq
            · exact HQ.out q hq
            · obtain rfl : q = (h, f) := by simpa using hq
              exact HHO.out
          · show World.ownsRow _ _ _ _ _ _ _
            rw [HL.out]
            exact HO5.out
    · have hke : k = hs.length := by omega
      subst hke
      have hOA : wr.ownsRow w3.heap.size 9 1 (.slice Aa hs.length ca) hs.length ((prs.map addrP).map strV) := by
        have h1 := HO.out
        rw [List.take_of_length_le (by rw [List.length_map, HLN.out]; exact Nat.le_refl _)] at h1
        exact h1
      have hQA : ∀ q ∈ prs, HostOk q := fun q hq => HQ.out q (by rw [List.take_of_length_le (by rw [HLN.out]; exact Nat.le_refl _)]; exact hq)
      have hJA : J = joinP (prs.map normQ) := by
        have h1 := HJ.out
        rw [List.take_of_length_le (by rw [List.length_map, HLN.out]; exact Nat.le_refl _)] at h1
        exact h1
      have HRA := Lib.hid (own_RRs hOA (by rw [List.length_map, HLN.out]))
      have HHL := Lib.hid (fun (W : World) (A : Option Addr) (c : Nat) (hb : Below wr.heap.size wr W) (hr : RR (lit byteV) all_ W A (keyBytesP K)) => hostLine_walk Aa ca prs A c K W HFK.out (by rw [HLN.out]; exact hs5) hQA ((HRA.out.keep (lit_steady _) (Keep.of_below hb)).mono (lit_steady _) (fun b hb _ => hb)) hr)
      have HLT := Lib.hid (fun (W : World) (hb : Below w.heap.size w W) => lineText_all _ K W HFK.out (HK.out.keep (Keep.of_below hb)))
      have HKB := Lib.hid (keyBytes_all _ K wr HFK.out (HK.out.keep (Keep.of_below HBW.out)))
      have gr : Blk wr w.heap.size 44 #[v0, v1, v2, v3, v4] := (HB.out.block _ HG3.out.lt).trans HG3.out
      have HGR := Lib.hid gr
      have k0 : wr.cell? ⟨w.heap.size, 0, none⟩ = some v0 := gr.cell 0
      have k1 : wr.cell? ⟨w.heap.size, 1, none⟩ = some v1 := gr.cell 1
      have k2 : wr.cell? ⟨w.heap.size, 2, none⟩ = some v2 := gr.cell 2
      have k3 : wr.cell? ⟨w.heap.size, 3, none⟩ = some v3 := gr.cell 3
      have k4 : wr.cell? ⟨w.heap.size, 4, none⟩ = some v4 := gr.cell 4
      have hJl : J.length ≤ 2000 := by
        rw [hJA]
        refine join_len (fun x hx => ?_) (by rw [List.length_map, HLN.out]; exact hs5)
        obtain ⟨q, hq, rfl⟩ := List.mem_map.1 hx
        exact normQ_len (hQA q hq)
      have hXl : (textP K).length ≤ 100000 := by
        have h1 := nameK_len K.kind
        have h2 := b64P_len (keyBytesP K)
        have h3 := keyBytesP_len HFK.out
        unfold textP
        simp only [List.length_append, List.length_cons, List.length_nil]
        omega
      obtain ⟨X, hX⟩ : ∃ X, X = textP K := ⟨_, rfl⟩
      have hX2 : nameK K.kind ++ [32] ++ b64P (keyBytesP K) = X := by rw [hX]; rfl
      obtain ⟨R, hR⟩ : ∃ X, X = hostL prs K := ⟨_, rfl⟩
      have hRJ : R = J ++ [32] ++ X := by rw [hR, hX, hJA]; rfl
      obtain ⟨kb, hkb⟩ : ∃ X, X = keyBytesP K := ⟨_, rfl⟩
      simp only [hX2] at HLT
      rw [← hX] at hXl
      simp only [← hkb, ← hR, HLN.out] at HHL HKB
      have cE : (⟨J.toArray⟩ : ByteArray) ++ ⟨#[32]⟩ ++ ⟨X.toArray⟩ = ⟨R.toArray⟩ := by rw [hRJ, str_one, str_app]
      have y3 := size_list J
      have y4 := size_list X
      have s3 : (9223372036854775807 < J.length + 1) = False := eq_false (by omega)
      have s4 : (9223372036854775807 < J.length + 1 + X.length) = False := eq_false (by omega)
      clear hOA hQA hJA hJl hXl hX hX2 hR hRJ hkb gr hlt hk
      go_upto_region 18 with (first
        | (go_at_call 24; refine HKB.out.mono ?_; rintro e w4 ⟨A, c, rfl, h5, h6, h7, h8⟩; have H5 := Lib.hid (own_all h5); have H8 := Lib.hid h8; clear h5 h6 h7 h8)
        | (go_at_call 23; refine (HHL.out w4 A c H8.out H5.out).mono ?_; rintro e w5 ⟨rfl, b5⟩; have B5 := Lib.hid (show Below wr.heap.size wr w5 from H8.out.trans (b5.mono H8.out.size)); clear b5))
      clear k0 k1 k2 k3 k4
      have HBE := Lib.hid (show Below w.heap.size w w5 from HBW.out.trans (B5.out.mono HBW.out.size))
      have HGE := Lib.hid (show Blk w5 w.heap.size 44 #[v0, v1, v2, v3, v4] from (B5.out.block _ HGR.out.lt).trans HGR.out)
      go_wp2_with (first
        | (go_at_call 10; refine (lines_walk _).mono ?_; rintro e w6 ⟨rfl, h6⟩; have g6 : Blk w6 w.heap.size 44 #[v0, v1, v2, v3, v4] := (h6.block _ HGE.out.lt).trans HGE.out; have j0 : w6.cell? ⟨w.heap.size, 0, none⟩ = some v0 := g6.cell 0; have j1 : w6.cell? ⟨w.heap.size, 1, none⟩ = some v1 := g6.cell 1; have j2 : w6.cell? ⟨w.heap.size, 2, none⟩ = some v2 := g6.cell 2; have j3 : w6.cell? ⟨w.heap.size, 3, none⟩ = some v3 := g6.cell 3; have j4 : w6.cell? ⟨w.heap.size, 4, none⟩ = some v4 := g6.cell 4; have B6 := Lib.hid (show Below w.heap.size w w6 from HBE.out.trans (h6.mono HBE.out.size)); clear h6 g6)
        | (go_at_call 25; refine (HLT.out w6 B6.out).mono ?_; rintro e w7 ⟨rfl, h7⟩; have B7 := Lib.hid (show Below w.heap.size w w7 from B6.out.trans (h7.mono B6.out.size)); clear h7))
      go_ret
      exact ⟨by simp, B7.out⟩

end Go.Proofs.YtoeepfmmceilaaaGreatDoor
