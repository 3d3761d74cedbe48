/- bytes.Equal, bytes.HasPrefix, ssh.readVersion. -/
import Derived.Test.YtmblpmmnglmjfaaGreatDoorAgRd
import Derived.Test.YtmblpmmnglmjfaaGreatDoorAgVp
import Derived.Test.YtmblpmmnglmjfaaGreatDoorAgPush
import Derived.Lib.SlBytesConst
set_option linter.unusedVariables false
set_option linter.unusedSimpArgs false
namespace Go.Proofs.YtmblpmmnglmjfaaGreatDoor
open Go.RowKit

theorem new_err (s : ByteArray) (w : World) : Calls Tryz.prog 31 #[.string s] w fun e w' => (∃ T v, e = .returned (.iface T v)) ∧ Below w.heap.size w w' := by
  go_enter Tryz.func31, Tryz.ntmps31
  go_wp2_with fail
  go_ret
  exact ⟨⟨_, _, rfl⟩, (Below.refl _ _).alloc (Nat.le_refl _) _⟩
theorem equal_any (ok ok' : Nat → Prop) (A B : Option Addr) (c d : Nat) (xs ys : List UInt8) (w : World) (hx : RR (lit byteV) ok w A xs) (hy : RR (lit byteV) ok' w B ys) :
    Calls Tryz.prog 40 #[.slice A xs.length c, .slice B ys.length d] w fun e w' => e = .returned (.bool (xs == ys)) ∧ w' = w := by
  have cx := run_to_string (P := Tryz.prog) Tryz.underlying26 Tryz.underlying5 Tryz.underlying9 c hx
  have cy := run_to_string (P := Tryz.prog) Tryz.underlying26 Tryz.underlying5 Tryz.underlying9 d hy
  clear hx hy
  by_cases he : xs = ys
  · subst he
    go_enter Tryz.func40, Tryz.ntmps40
    go_wp2_with fail
    go_ret
    exact ⟨by simp, rfl⟩
  · have hb : (xs == ys) = false := by rw [beq_eq_false_iff_ne]; exact he
    have HNE := Lib.hid he
    clear he
    go_enter Tryz.func40, Tryz.ntmps40
    go_wp2_with fail
    go_ret
    exact ⟨by simp [hb], rfl⟩
theorem prefix_any (ok ok' : Nat → Prop) (A B : Option Addr) (c d : Nat) (xs ys : List UInt8) (w : World) (hl : xs.length ≤ 1000000) (hl' : ys.length ≤ 1000000) (hc : xs.length ≤ c) (hx : RR (lit byteV) ok w A xs) (hy : RR (lit byteV) ok' w B ys) :
    Calls Tryz.prog 34 #[.slice A xs.length c, .slice B ys.length d] w fun e w' => e = .returned (.bool (ys.isPrefixOf xs)) ∧ w' = w := by
  have HY := Lib.hid hy
  by_cases h : ys.length ≤ xs.length
  · obtain ⟨i0, hi0, _, hsz, _⟩ := info_parts info_u8
    obtain ⟨A5, zs, hcut, hzs, hzl, hcr⟩ := cut_to (P := Tryz.prog) 26 5 .i64 Tryz.underlying26 hi0 hsz A c xs ys.length h hc
    have HZ := Lib.hid (equal_any ok ok' A5 B c d zs ys w (hcr _ _ _ hx) hy)
    have hd : ((ys.length : Int) ≤ (xs.length : Int)) = True := eq_true (by omega)
    have HP := Lib.hid (show (zs == ys) = ys.isPrefixOf xs by
      rw [hzs.out]
      by_cases he : xs.take ys.length = ys
      · rw [he, (take_eq_prefix _ _).1 he]; simp
      · have h1 : ys.isPrefixOf xs = false := by
          rw [Bool.eq_false_iff]; exact fun h => he ((take_eq_prefix _ _).2 h)
        rw [h1, beq_eq_false_iff_ne]; exact he)
    clear hx hy hcr hzs h hzl
    go_enter Tryz.func34, Tryz.ntmps34
    go_wp2_with (go_at_call 40; refine HZ.out.mono ?_; rintro e w1 ⟨rfl, hw⟩; (have hw := hw.symm); subst hw)
    go_ret
    exact ⟨by rw [HP.out]; rfl, rfl⟩
  · have hd : ((ys.length : Int) ≤ (xs.length : Int)) = False := eq_false (by omega)
    have HP := Lib.hid (show ys.isPrefixOf xs = false by
      rw [Bool.eq_false_iff]
      intro hp
      have := List.IsPrefix.length_le (List.isPrefixOf_iff_prefix.1 hp)
      omega)
    clear hx hy h
    go_enter Tryz.func34, Tryz.ntmps34
    go_wp2_with fail
    go_ret
    exact ⟨by rw [HP.out]; rfl, rfl⟩

/-- readVersion under way. -/
structure RvSt (w0 : World) (gr : Nat) (A : Option Addr) (c : Nat) (xs vs : List UInt8) (i : Nat) (A4 : Option Addr) (c4 : Nat) (wr : World) : Prop where
  own : wr.ownsRow w0.heap.size 5 1 (.slice A4 vs.length c4) vs.length (vs.map byteV)
  buf : ∃ u, Blk wr (w0.heap.size + 1) 94 #[u]
  rdr : ∃ pr, RdrAt wr gr A c xs i pr
  rr : RR (lit byteV) (fun b => b < w0.heap.size ∧ b ≠ gr) wr A xs
  keep : Keep (but gr) w0 wr
  lt : w0.heap.size + 1 < wr.heap.size
theorem RvSt.below {w0 wr w' : World} {gr : Nat} {A : Option Addr} {c : Nat} {xs vs : List UInt8} {i : Nat} {A4 : Option Addr} {c4 : Nat} (h : RvSt w0 gr A c xs vs i A4 c4 wr) (hb : Below wr.heap.size wr w') : RvSt w0 gr A c xs vs i A4 c4 w' := by
  obtain ⟨u, hu⟩ := h.buf
  obtain ⟨pr, hr⟩ := h.rdr
  exact ⟨own_move_ h.own (fun k hk => hb.block k (h.own.lt k hk).2), ⟨u, (hb.block _ hu.lt).trans hu⟩, ⟨pr, hr.below hb⟩, h.rr.keep (lit_steady _) (Keep.of_below hb), h.keep.trans (Keep.of_below hb), Nat.lt_of_lt_of_le h.lt hb.size⟩
theorem RvSt.read {w0 wr w2 : World} {gr : Nat} {A : Option Addr} {c : Nat} {xs vs : List UInt8} {i : Nat} {A4 : Option Addr} {c4 : Nat} {x : UInt8} (h : RvSt w0 gr A c xs vs i A4 c4 wr) (hgr : gr < w0.heap.size) (hb : Blk w2 (w0.heap.size + 1) 94 #[byteV x]) (hr : RdrAt w2 gr A c xs (i + 1) (-1)) (hk : Keep (fun b => b ≠ gr ∧ b ≠ w0.heap.size + 1) wr w2) : RvSt w0 gr A c xs vs (i + 1) A4 c4 w2 := by
  obtain ⟨u, hu⟩ := h.buf
  obtain ⟨pr, hrd⟩ := h.rdr
  refine ⟨own_move_ h.own (fun k hk' => hk.block k (h.own.lt k hk').2 ⟨fun e => own_ne_blk h.own hrd.blk (by decide) (by rw [hk', e]), fun e => own_ne_blk h.own hu (by decide) (by rw [hk', e])⟩), ⟨_, hb⟩, ⟨-1, hr⟩, ?_, ?_, Nat.lt_of_lt_of_le h.lt hk.size⟩
  · exact RR.move h.rr (lit_steady _) (fun b hb' ho => ⟨ho, hk.block b hb' ⟨ho.2, by omega⟩⟩)
  · exact h.keep.then hk (fun b hb' ho => ⟨ho, by omega⟩)
theorem own_none {w : World} {B : Nat} {e : TypeId} {A : Option Addr} {n c : Nat} {xs : List Value} (h : w.ownsRow B e 1 (.slice A n c) n xs) : w.ownsRow B e 1 (.slice A 0 c) 0 [] := by
  refine ⟨rfl, ?_⟩
  rcases h.2 with ⟨h1, h2⟩ | ⟨g, cap, cur, h1, h2, h3, h4, h5, h6, h7⟩
  · injection h1 with a b d
    subst a d
    exact .inl ⟨rfl, rfl⟩
  · injection h1 with a b d
    subst a d
    exact .inr ⟨g, c, cur, rfl, h2, h3, Nat.zero_le _, h5, h6, by simp⟩
theorem ssh_ne {vs : List UInt8} (h : isSsh vs = true) : ∃ n, vs.length = n + 1 := by
  cases vs with
  | nil => cases h
  | cons a r => exact ⟨r.length, rfl⟩
theorem rr_ssh (w : World) : RR (lit byteV) all_ (w.alloc (.cells #[byteV 83, byteV 83, byteV 72, byteV 45] 5 (4, 5))) (some ⟨w.heap.size, 0, none⟩) sshP := fun i x hx => by
  refine ⟨_, byteV x, rfl, trivial, ?_, rfl⟩
  have h0 : (⟨w.heap.size, 0, none⟩ : Addr).add i = ⟨w.heap.size, i, none⟩ := by unfold Addr.add; split <;> simp_all
  rw [h0, cell_of_row _ _ _ _ _ _ (heap_alloc_new w _)]
  match i, hx with
  | 0, hx => injection hx with hx; subst hx; rfl
  | 1, hx => injection hx with hx; subst hx; rfl
  | 2, hx => injection hx with hx; subst hx; rfl
  | 3, hx => injection hx with hx; subst hx; rfl
  | n + 4, hx => simp [sshP] at hx
theorem RvSt.grow {w0 w2 w3 : World} {gr : Nat} {A : Option Addr} {c : Nat} {xs vs : List UInt8} {i : Nat} {A4 : Option Addr} {c4 : Nat} {x : UInt8} {A' : Option Addr} {c' : Nat} (h : RvSt w0 gr A c xs vs i A4 c4 w2)
    (hown : w3.ownsRow w0.heap.size 5 1 (.slice A' (vs.length + 1) c') (vs.length + 1) (vs.map byteV ++ [byteV x])) (hg : w2.grownBy w3 (Value.slice A4 vs.length c4).ownBlock) : RvSt w0 gr A c xs (vs ++ [x]) i A' c' w3 := by
  obtain ⟨u, hu⟩ := h.buf
  obtain ⟨pr, hrd⟩ := h.rdr
  have hrr : RR (lit byteV) (fun b => b < w0.heap.size ∧ b ≠ gr) w3 A xs := RR.move h.rr (lit_steady _) (fun b hb' ho => ⟨ho, hg.block b hb' (fun e => by have := (own_block_lt h.own e.symm).1; omega)⟩)
  exact ⟨by simpa using hown, ⟨u, (hg.block _ hu.lt (fun e => own_ne_blk h.own hu (by decide) e.symm)).trans hu⟩, ⟨pr, (hg.block _ hrd.blk.lt (fun e => own_ne_blk h.own hrd.blk (by decide) e.symm)).trans hrd.blk, hrr.mono (lit_steady _) (fun b _ ho => ho.2), hrd.lec⟩, hrr, h.keep.grown hg (fun g hg' hlt => by have := (own_block_lt h.own hg').1; omega), Nat.lt_of_lt_of_le h.lt hg.size⟩
/-- How readVersion ends. -/
def RvEnd (w0 : World) (gr : Nat) (r : Option (List UInt8)) (e : Ending) (w' : World) : Prop :=
  Keep (but gr) w0 w' ∧ ((∃ v A' c', r = some v ∧ e = .returned (.tuple #[.slice A' v.length c', .nilIface]) ∧ v.length ≤ 1000 ∧ RR (lit byteV) (fun b => w0.heap.size ≤ b) w' A' v) ∨
    (r = none ∧ ∃ T v, e = .returned (.tuple #[.slice none 0 0, .iface T v])))
theorem make_64 (W : World) : (Instr.makeSlice 26 (.int .i64 0) (.int .i64 64)).run Tryz.prog W = .ok (.slice (some ⟨W.heap.size, 0, none⟩) 0 64) (W.alloc (.cells (zeros 64) 5)) := by
  obtain ⟨i, hi', hz, hs, hby⟩ := info_parts info_u8
  have h := run_make W 26 5 i (.int .u8 0) Tryz.underlying26 hi' hz .i64 .i64 0 64 (by omega) (by omega) (by rw [hby]; omega) (by omega)
  simp only [hs, Nat.mul_one, Value.cells] at h
  exact h

set_option maxRecDepth 100000 in
set_option maxHeartbeats 3200000 in
theorem rv_any (w0 : World) (gr c T : Nat) (A : Option Addr) (xs : List UInt8) (v : Value) (h : RdrAt w0 gr A c xs 0 (-1)) (hr : RR (lit byteV) (fun b => b < w0.heap.size ∧ b ≠ gr) w0 A xs) (hl : xs.length ≤ 1000000) (he : w0.cell? ⟨2, 0, none⟩ = some (.iface T v)) (heg : 2 ≠ gr) :
    Calls Tryz.prog 26 #[.iface 48 (.pointer (some ⟨gr, 0, none⟩))] w0 (RvEnd w0 gr (rvP xs [] 0)) := by
  have hmk := make_64 w0
  have hgr := h.blk.lt
  have hb1 : Below w0.heap.size w0 ((w0.alloc (.cells (zeros 64) 5)).alloc (.cells #[.int .u8 0] 94)) := ((Below.refl _ _).alloc (Nat.le_refl _) _).alloc (by simp) _
  have hst : RvSt w0 gr A c xs [] 0 (some ⟨w0.heap.size, 0, none⟩) 64 ((w0.alloc (.cells (zeros 64) 5)).alloc (.cells #[.int .u8 0] 94)) := by
    refine ⟨?_, ⟨.int .u8 0, ?_⟩, ⟨-1, h.below hb1⟩, hr.keep (lit_steady _) (Keep.of_below hb1), Keep.of_below hb1, by simp⟩
    · have hown : (w0.alloc (.cells (zeros 64) 5)).ownsRow w0.heap.size 5 1 (.slice (some ⟨w0.heap.size, 0, none⟩) 0 64) 0 [] :=
        ⟨rfl, .inr ⟨w0.heap.size, 64, zeros 64, rfl, Nat.le_refl _, heap_alloc_new w0 _, by decide, by decide, by simp [zeros, ← Array.length_toList, toList_madeCells_one], rfl⟩⟩
      exact own_move_ hown (fun k hk => Below.heap_alloc _ _ _ (hown.lt k hk).2)
    · have := Blk.new (w0.alloc (.cells (zeros 64) 5)) 94 #[.int .u8 0]
      simpa using this
  have HST := Lib.hid hst
  have HE := Lib.hid he
  clear h hr hb1 hst he
  go_enter Tryz.func26, Tryz.ntmps26
  go_wp2_with fail
  go_loopg [4, 5, 7] (xs.length + 1) (fun gk v4 v5 v7 wr => ∃ (vs : List UInt8) (i cnt c4 : Nat) (A4 : Option Addr), v4 = .slice A4 vs.length c4 ∧ v5 = .bool false ∧ v7 = .int .i64 (cnt : Int) ∧ i ≤ xs.length ∧ Hid (i + gk = xs.length + 1) ∧ vs.length ≤ 255 ∧ cnt ≤ 1024 ∧ Hid (rvP (xs.drop i) vs cnt = rvP xs [] 0) ∧ Hid (RvSt w0 gr A c xs vs i A4 c4 wr))
  case atStart => exact ⟨[], 0, 0, 64, some ⟨w0.heap.size, 0, none⟩, rfl, rfl, rfl, Nat.zero_le _, by simp [Hid], by simp, by omega, rfl, HST⟩
  case round =>
    obtain ⟨vs, i, cnt, c4, A4, rfl, rfl, rfl, hi, hgk, hvs, hcnt, hrv, hS⟩ := hrel
    by_cases hc : vs.length < 255 ∧ cnt < 1024
    · obtain ⟨hc1, hc2⟩ := hc
      have hd1 : ((vs.length : Int) < 255) = True := eq_true (by omega)
      have hd2 : ((cnt : Int) < 1024) = True := eq_true (by omega)
      by_cases hlt : i < xs.length
      · obtain ⟨x, hx⟩ : ∃ x, xs[i]? = some x := ⟨_, List.getElem?_eq_getElem hlt⟩
        obtain ⟨u, hu⟩ := hS.out.buf
        obtain ⟨pr, hrd⟩ := hS.out.rdr
        have HF := Lib.hid (rfull_byte wr gr (w0.heap.size + 1) c i A xs pr x u _ hrd hx hl hu (by omega) (hS.out.rr.mono (lit_steady _) (fun b _ ho => by omega)))
        have HX := Lib.hid hx
        clear hx hu hrd
        by_cases h10 : x = 10
        · subst h10
          go_upto_region 9 with (go_at_call 29; refine HF.out.mono ?_; rintro e w2 ⟨rfl, hb2, hr2, hk2⟩; have HB2 := Lib.hid hb2; have HS2 := Lib.hid (hS.out.read hgr hb2 hr2 hk2); clear hb2 hr2 hk2)
          have cb2 : w2.cell? ⟨w0.heap.size + 1, 0, none⟩ = some (.int .u8 10) := HB2.out.cell 0
          obtain ⟨w3, hw3⟩ : ∃ W, W = w2.alloc (.cells #[.int .u8 83, .int .u8 83, .int .u8 72, .int .u8 45] 5 (4, 5)) := ⟨_, rfl⟩
          have hb3 : Below w2.heap.size w2 w3 := by rw [hw3]; exact (Below.refl _ _).alloc (Nat.le_refl _) _
          have hS3 := HS2.out.below hb3
          have hrs : RR (lit byteV) all_ w3 (some ⟨w2.heap.size, 0, none⟩) sshP := by rw [hw3]; exact rr_ssh w2
          obtain ⟨_, _, hv4, hc4, _⟩ := own_form hS3.own
          injection hv4 with e41 e42 e43
          have HP := Lib.hid (prefix_any all_ all_ A4 (some ⟨w2.heap.size, 0, none⟩) c4 4 vs sshP w3 (by omega) (by decide) (by omega) (own_RR hS3.own (fun _ _ => trivial)) hrs)
          have HP := Lib.hid (show Calls Tryz.prog 34 #[.slice A4 vs.length c4, .slice (some ⟨w2.heap.size, 0, none⟩) 4 4] w3 fun e w' => e = .returned (.bool (isSsh vs)) ∧ w' = w3 from HP.out)
          have HS3 := Lib.hid hS3
          have hle4 : vs.length ≤ c4 := by omega
          rw [hw3] at HP
          have HW3 := Lib.hid hw3
          clear hw3 hb3 hS3 hrs hc4 e41 e42 e43
          have kc := fun (w : World) (C : Array Value) (n c : Nat) => Lib.run_convert_bytes_const (P := Tryz.prog) w 26 5 C n c Tryz.underlying26 Tryz.underlying5
          go_upto_region 10 with fail
          cases hs : isSsh vs
          · rw [hs] at HP
            have HSS := Lib.hid hs
            clear hs
            go_wp2_with (go_at_call 34; refine HP.out.mono ?_; rintro e wz ⟨rfl, hw⟩; (have hw := hw.symm); subst hw)
            rw [← HW3.out]
            go_roundg (gk - 1)
            case measure => have := hgk.out; omega
            case rel =>
              have hg := hgk.out
              have hown0 := own_none HS3.out.own
              have hS4 := HS3.out
              refine ⟨[], i + 1, cnt + 1, c4, A4, rfl, rfl, by go_num, by omega, show _ = _ by omega, by simp, by omega, show _ = _ from ?_, ⟨hown0, hS4.buf, hS4.rdr, hS4.rr, hS4.keep, hS4.lt⟩⟩
              have h1 := hrv.out
              rw [drop_cons_of HX.out, rvP, if_pos ⟨hc1, hc2⟩, if_pos rfl, HSS.out] at h1
              exact h1
          · rw [hs] at HP
            have HSS := Lib.hid hs
            obtain ⟨n, hn⟩ := ssh_ne hs
            obtain ⟨y, hy⟩ : ∃ y, vs[n]? = some y := ⟨_, List.getElem?_eq_getElem (by omega)⟩
            have HY := Lib.hid hy
            have HN := Lib.hid hn
            have hr3 := own_RR HS3.out.own (ok := fun b => w0.heap.size ≤ b) (fun b hb => own_block_lt_ HS3.out.own hb)
            obtain ⟨ad4, rfl, had, hc3⟩ := hr3.addr (by omega)
            obtain ⟨u3, hcz, rfl⟩ := hc3 n y hy
            have hcy : w3.cell? (ad4.add n) = some (.int .u8 (y.toNat : Int)) := hcz
            clear hcz
            have HR3 := Lib.hid hr3
            have hn255 : n < 255 := by omega
            clear hs hy hc3 hr3
            rw [hn] at HP hle4 ⊢
            go_upto_region 15 with (go_at_call 34; refine HP.out.mono ?_; rintro e wz ⟨rfl, hw⟩; (have hw := hw.symm); subst hw)
            rw [← HW3.out]
            have hrvE := Lib.hid (show rvP xs [] 0 = some (if y = 13 then vs.take n else vs) by
              rw [← hrv.out, drop_cons_of HX.out, rvP_found ⟨hc1, hc2⟩ HSS.out, strip_at HN.out HY.out])
            have hKP := Lib.hid HS3.out.keep
            have hn0 : ((0 : Int) < ((n + 1 : Nat) : Int)) = True := eq_true (by omega)
            have hn1 : ((n + 1 : Nat) : Int) - 1 = (n : Int) := by omega
            obtain ⟨i0, hi0, _, hsz, _⟩ := info_parts info_u8
            obtain ⟨A5, zs, hcut, hzs, hzl, hcr⟩ := cut_to (P := Tryz.prog) 26 5 .i64 Tryz.underlying26 hi0 hsz (some ad4) c4 vs n (by rw [HN.out]; omega) (by rw [HN.out]; omega)
            rw [HN.out] at hcut
            have HR5 := Lib.hid (hcr _ _ _ HR3.out)
            clear hcr hi hgk hvs hcnt hrv hS hlt
            by_cases h13 : y = 13
            · subst h13
              have hcx : w3.cell? (ad4.add n) = some (.int .u8 13) := hcy
              clear hcy
              go_wp2_with fail
              go_ret2
              exact ⟨hKP.out, .inl ⟨zs, A5, c4, by rw [hrvE.out, hzs.out]; simp, rfl, by rw [hzs.out, List.length_take]; omega, HR5.out⟩⟩
            · have hb13 : ((y.toNat : Int) == 13) = false := by
                rw [beq_eq_false_iff_ne]
                intro e
                exact h13 (UInt8.toNat_inj.1 (by show y.toNat = 13; omega))
              have HNE := Lib.hid h13
              clear h13
              go_wp2_with fail
              go_ret2
              exact ⟨hKP.out, .inl ⟨vs, some ad4, c4, by rw [hrvE.out, if_neg HNE.out], by rw [HN.out]; rfl, by rw [HN.out]; omega, HR3.out⟩⟩
        · have hb10 : ((x.toNat : Int) == 10) = false := by
            rw [beq_eq_false_iff_ne]
            intro e
            exact h10 (UInt8.toNat_inj.1 (by show x.toNat = 10; omega))
          go_upto_region 9 with (go_at_call 29; refine HF.out.mono ?_; rintro e w2 ⟨rfl, hb2, hr2, hk2⟩; have HB2 := Lib.hid hb2; have HS2 := Lib.hid (hS.out.read hgr hb2 hr2 hk2); clear hb2 hr2 hk2)
          have cb2 : w2.cell? ⟨w0.heap.size + 1, 0, none⟩ = some (.int .u8 (x.toNat : Int)) := HB2.out.cell 0
          have hlt2 := HS2.out.lt
          go_upto_region 15 with (at_builtin; refine Hid.out ?_)
          refine Lib.hid ?_
          refine wpList_pushM rfl _ _ _ rfl w0.heap.size 5 (.int .u8 0) 1 Tryz.underlying26 info_u8 rfl (.slice A4 vs.length c4) (vs.map byteV) vs.length (by simp) rfl (own_move_ HS2.out.own (fun k hk => Below.heap_alloc _ _ _ (HS2.out.own.lt k hk).2)) w2.heap.size (byteV x) rfl (Blk.new _ _ _) rfl (by omega) (by omega) (by simp; omega) ?_
          intro A' c' w3 hown3 hg3 _
          have HN := Lib.hid ((HS2.out.below ((Below.refl _ _).alloc (Nat.le_refl _) _)).grow hown3 hg3)
          clear hown3 hg3
          go_wp2_with fail
          go_roundg (gk - 1)
          case measure => have := hgk.out; omega
          case rel =>
            have hg := hgk.out
            refine ⟨vs ++ [x], i + 1, cnt, c', A', by simp, rfl, rfl, by omega, show _ = _ by omega, by simp; omega, by omega, show _ = _ from ?_, HN⟩
            have h1 := hrv.out
            rw [drop_cons_of HX.out, rvP, if_pos ⟨hc1, hc2⟩, if_neg h10] at h1
            exact h1
      · have hie : i = xs.length := by omega
        subst hie
        obtain ⟨pr, hrd⟩ := hS.out.rdr
        have HF := Lib.hid (rfull_eof wr gr c T (w0.heap.size + 1) A xs pr v hrd (hS.out.keep.cell heg HE.out))
        have hNo := Lib.hid (show rvP xs [] 0 = none by rw [← hrv.out, List.drop_length]; rfl)
        have HKP := Lib.hid hS.out.keep
        clear hrd hlt
        go_wp2_with (go_at_call 29; refine HF.out.mono ?_; rintro e w2 ⟨rfl, hb2⟩; have HB2 := Lib.hid hb2; clear hb2)
        go_ret2
        exact ⟨HKP.out.trans (Keep.of_below HB2.out), .inr ⟨hNo.out, T, v, rfl⟩⟩
    · have hNo := Lib.hid (show rvP xs [] 0 = none by rw [← hrv.out, rvP_stop hc])
      have HKP := Lib.hid hS.out.keep
      by_cases hc1 : vs.length < 255
      · have hc2 : ¬ cnt < 1024 := fun h => hc ⟨hc1, h⟩
        have hd1 : ((vs.length : Int) < 255) = True := eq_true (by omega)
        have hd2 : ((cnt : Int) < 1024) = False := eq_false (by omega)
        clear hc hc1 hc2
        go_wp2_with (go_at_call 31; refine (new_err _ _).mono ?_; rintro e w2 ⟨⟨T2, v2, rfl⟩, hb2⟩; have HB2 := Lib.hid hb2; clear hb2)
        go_ret2
        exact ⟨HKP.out.trans (Keep.of_below HB2.out), .inr ⟨hNo.out, T2, v2, rfl⟩⟩
      · have hd1 : ((vs.length : Int) < 255) = False := eq_false (by omega)
        clear hc hc1
        go_wp2_with (go_at_call 31; refine (new_err _ _).mono ?_; rintro e w2 ⟨⟨T2, v2, rfl⟩, hb2⟩; have HB2 := Lib.hid hb2; clear hb2)
        go_ret2
        exact ⟨HKP.out.trans (Keep.of_below HB2.out), .inr ⟨hNo.out, T2, v2, rfl⟩⟩

end Go.Proofs.YtmblpmmnglmjfaaGreatDoor
