/- spec.ReadMessage: the walk. -/
import Derived.Test.YtnlkgaobbobakaaSpecRead
set_option linter.unusedVariables false
set_option linter.unusedSimpArgs false
namespace Go.Proofs.Ytnlkgaobbobakaa
open Go.RowKit

def letters (l : List UInt8) : Prop := ∀ c ∈ l, c = 110 ∨ c = 115 ∨ c = 108 ∨ c = 116 ∨ c = 99 ∨ c = 114

theorem one {α : Type} {l : List α} (h : l.length = 1) : ∃ a, l = [a] := by
  match l, h with
  | [a], _ => exact ⟨a, rfl⟩
theorem byte_ne_zero (y : UInt8) : ((y.toNat : Int) != 0) = (y != 0) := by
  rw [Bool.eq_iff_iff]
  simp only [bne_iff_ne, ne_eq]
  refine not_congr ⟨fun h => ?_, fun h => by subst h; rfl⟩
  exact UInt8.toNat_inj.1 (by have : y.toNat = 0 := by omega
                              rw [this]; rfl)
theorem six {cs : Array Value} (h : cs.size = 6) : ∃ a b c d e f, cs = #[a, b, c, d, e, f] := by
  obtain ⟨l⟩ := cs
  match l, h with
  | [a, b, c, d, e, f], _ => exact ⟨a, b, c, d, e, f, rfl⟩
/-- How spec.ReadMessage ends. -/
def ReadEnd (w0 : World) (xs : List UInt8) (e : Ending) (w' : World) : Prop :=
  ∃ v, e = .returned (.tuple #[v, .int .i64 ((readP xs).2 : Int)]) ∧ MsgS all_ w' v (readP xs).1 ∧ Below w0.heap.size w0 w'

theorem read_close {w0 w W : World} {gm g k gr : Nat} {form : ByteArray} {pos : Nat} {vI vS vN vT vB : Value} {cN : List Value} {M : Msg} {xs l : List UInt8} {st s : Nat} {x : Int}
    (h : RdSt w0 gm g k gr [] form pos vI vS vN vT vB cN M xs st w) (hnum : M.number = x) (hread : readP l = (M, s)) (hg : w.grownBy W (some gr)) :
    ReadEnd w0 l (.returned (.tuple #[.agg #[.int .i64 x, vI, vS, vN, vT, vB], .int .i64 (s : Int)])) W := by
  unfold ReadEnd
  rw [hread]
  have hv := (h.msg.side (b := gr) (by simp) hg).toV
  rw [hnum] at hv
  have hk := h.old.grown hg (fun b e hlt hb => by injection e with e; have := h.lo.2.2; omega)
  exact ⟨_, rfl, hv, hk.os, hk.tape, hk.output, hk.size, fun b hb => hk.block b hb hb⟩
theorem res_cells {w0 w : World} {gm g k gr : Nat} {X : List Nat} {form : ByteArray} {pos : Nat} {vI vS vN vT vB : Value} {cN : List Value} {M : Msg} {xs : List UInt8} {st : Nat} (h : RdSt w0 gm g k gr X form pos vI vS vN vT vB cN M xs st w) :
    ∃ u0 u1 u2 u3 u4 u5, w.cell? ⟨gr, 0, none⟩ = some u0 ∧ w.cell? ⟨gr, 1, none⟩ = some u1 ∧ w.cell? ⟨gr, 2, none⟩ = some u2 ∧ w.cell? ⟨gr, 3, none⟩ = some u3 ∧ w.cell? ⟨gr, 4, none⟩ = some u4 ∧ w.cell? ⟨gr, 5, none⟩ = some u5 ∧ ∀ i, w.frozen? ⟨gr, i, none⟩ = false := by
  obtain ⟨cs, hcs, hres⟩ := h.res
  obtain ⟨u0, u1, u2, u3, u4, u5, rfl⟩ := six hcs
  have c := hres.cell
  exact ⟨u0, u1, u2, u3, u4, u5, by simpa using c 0, by simpa using c 1, by simpa using c 2, by simpa using c 3, by simpa using c 4, by simpa using c 5, hres.frozen⟩

set_option maxRecDepth 100000 in
set_option maxHeartbeats 1600000 in
theorem read_walk (w0 : World) (A : Option Addr) (c : Nat) (x : UInt8) (r : List UInt8) (form : List UInt8) (hf : shapeP x.toNat = some form) (hl : letters form) (hfl : form.length ≤ 100) (hrl : r.length ≤ 1000000)
    (hc : (x :: r).length ≤ c) (hm : c ≤ 9223372036854775807) (hr : RR (lit byteV) (fun b => b < w0.heap.size) w0 A (x :: r)) :
    Calls Try.prog 9 #[.slice A (x :: r).length c] w0 (ReadEnd w0 (x :: r)) := by
  obtain ⟨ad, rfl, _, hcell⟩ := RB.at hr (by simp)
  have c0 : w0.cell? ad = _ := hcell 0 x rfl
  have HR := Lib.hid hr
  have HF := Lib.hid hf
  have HL := Lib.hid hl
  have hb0 := byte_le x
  obtain ⟨i0, hi0, _, hsz, _⟩ := info_parts info_u8
  obtain ⟨A2, zs, r2, e2, l2, q2⟩ := cut_from (P := Try.prog) 26 5 .i64 Try.underlying26 hi0 hsz (some ad) c (x :: r) 1 (by simp) hc
  have r3 : ∀ W : World, (Instr.slice 26 (.slice (some ad) (r.length + 1) c) (some (.int .i64 1)) none none).run Try.prog W = .ok (.slice A2 zs.length (c - 1)) W := r2
  clear hcell hr hf hl r2 hi0 hsz
  go_enter Try.func9, Try.ntmps9
  go_wp2_with fail
  refine (shape_any _ _).mono ?_
  rintro e w1 ⟨rfl, rfl⟩
  rw [HF.out]
  have hrange : ∀ W : World, (Instr.range 9 (strV form)).run Try.prog W = .ok (.pointer (some ⟨W.heap.size, 0, none⟩)) (W.iter ⟨form.toArray⟩ 0) := fun W => run_range_string W _ _ Try.underlying9
  have hsome : (some form).isSome = true := rfl
  have hget : (some form).getD [] = form := rfl
  go_wp2_with fail
  go_loopg [] form.length (fun gk wr => ∃ pos vI vS vN vT vB cN M xs st, RdSt w0 (w0.heap.size + 1) (w0.heap.size + 1 + 1) (w0.heap.size + 1 + 1 + 1) w0.heap.size [] ⟨form.toArray⟩ pos vI vS vN vT vB cN M xs st wr ∧
    Hid (runP (form.drop pos) M xs st = runP form (Msg.none_ x.toNat) r 0) ∧ Hid (pos + gk = form.length) ∧ Hid (M.ints.length ≤ pos ∧ M.strings.length ≤ pos ∧ M.names.length ≤ pos ∧ M.truths.length ≤ pos) ∧ Hid (xs.length ≤ r.length))
  case atStart =>
    have hz : zs = r := by rw [e2.out]; rfl
    refine ⟨0, _, _, _, _, _, _, _, zs, 0, RdSt.start w0 (x.toNat : Int) A2 (c - 1) zs ⟨form.toArray⟩ l2 (by omega) (q2 _ _ _ HR.out), ?_, ?_, ?_, ?_⟩
    · show _ = _
      rw [hz]; rfl
    · show _ = _
      omega
    · exact ⟨Nat.le_refl _, Nat.le_refl _, Nat.le_refl _, Nat.le_refl _⟩
    · show _ ≤ _
      rw [hz]; exact Nat.le_refl _
  case round =>
    obtain ⟨pos, vI, vS, vN, vT, vB, cN, M, xs, st, hR, hrun, hpos, HLen, hxl⟩ := hrel
    by_cases hlt : pos < form.length
    · obtain ⟨ch, hch⟩ : ∃ ch, form[pos]? = some ch := ⟨_, List.getElem?_eq_getElem hlt⟩
      have hmem : ch ∈ form := List.mem_of_getElem? hch
      have hdrop : form.drop pos = ch :: form.drop (pos + 1) := by
        obtain ⟨h1, h2⟩ := List.getElem?_eq_some_iff.1 hch
        rw [List.drop_eq_getElem_cons h1, h2]
      have hrun1 : runP (form.drop (pos + 1)) (stepP ch M xs st).1 (stepP ch M xs st).2.1 (stepP ch M xs st).2.2 = runP form (Msg.none_ x.toNat) r 0 := by
        have := hrun.out; rw [hdrop] at this; exact this
      have HRun := Lib.hid hrun1
      have HPos := Lib.hid (show pos + 1 + (gk - 1) = form.length by have := hpos.out; omega)
      have HX : ∀ ch, Hid ((stepP ch M xs st).2.1.length ≤ r.length) := fun ch => Nat.le_trans (stepP_le ch M xs st) hxl.out
      have HP := Lib.hid (show pos < 100 by omega)
      have HG := Lib.hid (show gk - 1 < gk by have := hpos.out; omega)
      have hR1 := hR.next (pos + 1)
      have HR1 := Lib.hid hR1
      obtain ⟨m0, m1, m2, m3, m4, m5⟩ := hR1.msg.cell
      have fz := hR1.msg.obj.blk.frozen
      have hnx : ∀ ty, _ := fun ty => next_letter ty hR.iter hch (by rcases HL.out ch hmem with rfl | rfl | rfl | rfl | rfl | rfl <;> decide)
      have hz : (w0.heap.size + 1 + 1 + 1 < (wr.iterAt (w0.heap.size + 1 + 1 + 1) ⟨form.toArray⟩ (pos + 1)).heap.size) := by
        rw [Lib.iterAt_size]; exact (Array.getElem?_eq_some_iff.1 hR.iter).1
      clear hrun hrun1 hpos hdrop hR hR1 hlt
      generalize wr.iterAt (w0.heap.size + 1 + 1 + 1) ⟨form.toArray⟩ (pos + 1) = w1 at *
      rcases HL.out ch hmem with rfl | rfl | rfl | rfl | rfl | rfl
      ·
        have hnx1 : ∀ ty, (Instr.next (.pointer (some ⟨w0.heap.size + 1 + 1 + 1, 0, none⟩)) true ty).run Try.prog wr = .ok (.tuple #[.bool true, .int .i64 (pos : Int), .int .i32 110]) w1 := hnx
        clear hnx hmem hch
        have HN := Lib.hid (number_any _ (w0.heap.size + 1 + 1) xs st w1.drew (fun ho => ho.2.1 (by simp)) HR1.out.drew.msg.obj.fresh HR1.out.drew.rdr)
        go_wp2_with fail
        go_region_law (first
          | (refine step_push rfl _ _ _ rfl w0.heap.size 48 (.int .u32 0) 4 Try.underlying22 info_u32 rfl vI (M.ints.map u32V) rfl ((HR2.out.alloc _).msg.ownI) _ (u32V (numP xs st).1) rfl (Blk.new _ _ _) rfl (by have := HLen.out; have := HP.out; rw [List.length_map]; omega) (by have := HLen.out; have := HP.out; rw [List.length_map]; omega) (HR2.out.alloc _).old.size ?_; intro A3 c3 w3 hown3 hg3 hat3; have hb3 := (HR2.out.alloc _).msg.after ⟨_, List.mem_cons_self .., rfl⟩ hg3; have m1' := hb3.cell 1; have f1' := hb3.frozen 1; simp at m1'; have HB3 := Lib.hid hb3; clear hb3)
          | (go_simp; go_at_call 20; refine HN.out.mono ?_; rintro e w2 ⟨rfl, hr2, hg2⟩; have HR2 := Lib.hid (HR1.out.drew.reader hr2 hg2); have m2' : w2.cell? ⟨w0.heap.size + 1, 1, none⟩ = some vI := HR2.out.msg.cell.2.1; have hz2 : w0.heap.size + 1 < w2.heap.size := HR2.out.msg.obj.blk.lt))
        all_goals
          go_wp2_with fail
          go_roundg (gk - 1)
          case measure => exact HG.out
          case rel =>
            have hl := HLen.out
            rw [List.length_map] at hown3 hat3
            refine ⟨pos + 1, _, _, _, _, _, _, _, _, _, (HR2.out.alloc _).pushI hown3 hg3 hat3, HRun.out, HPos.out, ?_, HX 110⟩
            show _ ∧ _ ∧ _ ∧ _
            simp only [List.length_append, List.length_singleton]
            omega
      ·
        have hnx1 : ∀ ty, (Instr.next (.pointer (some ⟨w0.heap.size + 1 + 1 + 1, 0, none⟩)) true ty).run Try.prog wr = .ok (.tuple #[.bool true, .int .i64 (pos : Int), .int .i32 115]) w1 := hnx
        clear hnx hmem hch
        have HN := Lib.hid (bytes_any _ (w0.heap.size + 1 + 1) xs st w1.drew (fun ho => ho.2.1 (by simp)) HR1.out.drew.msg.obj.fresh HR1.out.drew.rdr)
        go_wp2_with fail
        go_region_law (first
          | (refine step_push rfl _ _ _ rfl w0.heap.size 9 (.string .empty) 16 Try.underlying23 info_str rfl vS (M.strings.map strV) rfl ((HR2.out.alloc _).msg.ownS) _ (strV (bytesP xs st).1) rfl (Blk.new _ _ _) rfl (by have := HLen.out; have := HP.out; rw [List.length_map]; omega) (by have := HLen.out; have := HP.out; rw [List.length_map]; omega) (HR2.out.alloc _).old.size ?_; intro A3 c3 w3 hown3 hg3 hat3; have hb3 := (HR2.out.alloc _).msg.after ⟨_, List.mem_cons_of_mem _ (List.mem_cons_self ..), rfl⟩ hg3; have m1' := hb3.cell 2; have f1' := hb3.frozen 2; simp at m1'; have HB3 := Lib.hid hb3; clear hb3)
          | (go_simp; go_at_call 21; refine HN.out.mono ?_; rintro e w2 ⟨v2, rfl, ⟨A2, c2, rfl, q2, q3, q4⟩, hr2, hg2⟩; have HR2 := Lib.hid (HR1.out.drew.reader hr2 hg2); have hcv := run_to_string (P := Try.prog) Try.underlying26 Try.underlying5 Try.underlying9 c2 q4; have m2' : w2.cell? ⟨w0.heap.size + 1, 2, none⟩ = some vS := HR2.out.msg.cell.2.2.1; have hz2 : w0.heap.size + 1 < w2.heap.size := HR2.out.msg.obj.blk.lt; clear q4))
        all_goals
          go_wp2_with fail
          go_roundg (gk - 1)
          case measure => exact HG.out
          case rel =>
            have hl := HLen.out
            rw [List.length_map] at hown3 hat3
            refine ⟨pos + 1, _, _, _, _, _, _, _, _, _, (HR2.out.alloc _).pushS hown3 hg3 hat3, HRun.out, HPos.out, ?_, HX 115⟩
            show _ ∧ _ ∧ _ ∧ _
            simp only [List.length_append, List.length_singleton]
            omega
      ·
        have hnx1 : ∀ ty, (Instr.next (.pointer (some ⟨w0.heap.size + 1 + 1 + 1, 0, none⟩)) true ty).run Try.prog wr = .ok (.tuple #[.bool true, .int .i64 (pos : Int), .int .i32 108]) w1 := hnx
        clear hnx hmem hch
        obtain ⟨ys, xs2, st2, hq⟩ : ∃ ys xs2 st2, bytesP xs st = (ys, xs2, st2) := ⟨_, _, _, rfl⟩
        have HN0 := bytes_any _ (w0.heap.size + 1 + 1) xs st w1 (fun ho => ho.2.1 (by simp)) HR1.out.msg.obj.fresh HR1.out.rdr
        rw [hq] at HN0
        have HN := Lib.hid HN0
        have HQ := Lib.hid hq
        clear HN0 hq
        go_wp2_with fail
        refine HN.out.mono ?_
        rintro e w2 ⟨v2, rfl, ⟨A2, c2, rfl, q2, q3, q4⟩, hr2, hg2⟩
        dsimp only at q2 q4 hr2 ⊢
        have HR2 := Lib.hid (HR1.out.reader hr2 hg2)
        have H4 := Lib.hid q4
        have HYL := Lib.hid (show ys.length ≤ 1000000 by have h1 := bytesP_le xs st; rw [HQ.out] at h1; have h2 := hxl.out; dsimp only at h1; omega)
        clear q4 hr2 hg2 m0 m1 m2 m3 m4 m5 fz hz HR1 HN hnx1
        go_wp2_with fail
        obtain ⟨go, rfl⟩ : ∃ n : Nat, n = gk := ⟨_, rfl⟩
        obtain ⟨wo, rfl⟩ : ∃ n : World, n = wr := ⟨_, rfl⟩
        have hyl : (ys.length : Int) ≤ 1000000 := by have := HYL.out; omega
        go_loopg [10, 12, 13] (ys.length + 2) (fun gk2 vl vf vi wr2 => ∃ (Al : Option Addr) (cl : Nat) (l : List (List UInt8)) (f i : Nat) (st' : Nat), vl = .slice Al l.length cl ∧ vf = .int .i64 (f : Int) ∧ vi = .int .i64 (i : Int) ∧ f ≤ i ∧ i ≤ ys.length + 1 ∧
          RdSt w0 (w0.heap.size + 1) (w0.heap.size + 1 + 1) (w0.heap.size + 1 + 1 + 1) w0.heap.size (Value.slice Al l.length cl).ownBlock.toList ⟨form.toArray⟩ (pos + 1) vI vS vN vT vB cN M xs2 st' wr2 ∧
          wr2.ownsRow w0.heap.size 9 1 (.slice Al l.length cl) l.length (l.map strV) ∧
          RR (lit byteV) (Out ((w0.heap.size + 1 + 1) :: (w0.heap.size + 1 + 1 + 1) :: w0.heap.size :: (Value.slice Al l.length cl).ownBlock.toList) (w0.heap.size + 1) (msgRows vI vS vN vT cN M)) wr2 A2 ys ∧
          Hid (Spl ys l f i ∧ st' = stL l st2 ∧ l.length ≤ i) ∧ Hid (i + gk2 = ys.length + 2) ∧ Hid (ys = [] → i = 0))
        case atStart => exact ⟨none, 0, [], 0, 0, st2, rfl, rfl, rfl, by omega, by omega, HR2.out, World.ownsRow_nil _ _ _ _, H4.out, ⟨Spl.start ys, rfl, by simp⟩, by simp [Hid], fun _ => rfl⟩
        case round =>
          obtain ⟨Al, cl, l, f, i, st', rfl, rfl, rfl, hfi, hil, hS, hown, h4, hpure, hgk, hy0⟩ := hrel
          have HS := Lib.hid hS
          have HB := Lib.hid h4
          have HO := Lib.hid (show wr.ownsRow w0.heap.size 9 1 (.slice Al l.length cl) (l.map strV).length (l.map strV) by rw [List.length_map]; exact hown)
          have HL1 := Lib.hid (show l.length ≤ 2000000 by have h1 := hpure.out.2.2; have h2 := HYL.out; omega)
          by_cases hexit : ys = [] ∨ i = ys.length + 1
          ·
            have hl9 : l = namesP ys ∧ st' = nameSt ys st2 := by
              have hp := hpure.out
              rcases hexit with e | e
              · have h0 := hy0 e
                subst h0
                have : l = [] := List.eq_nil_of_length_eq_zero (by omega)
                subst this
                subst e
                exact ⟨rfl, hp.2.1⟩
              · have hne : ys ≠ [] := fun h => by have := hy0 h; rw [h] at e; simp at e; omega
                have e1 := hp.1.done e
                have e2 : namesP ys = l := by unfold namesP; rw [if_neg hne, e1]
                exact ⟨e2.symm, by unfold nameSt; rw [e2]; exact hp.2.1⟩
            have H9 := Lib.hid hl9
            obtain ⟨hD, hu⟩ := hS.doneL hown
            obtain ⟨_, _, _, m3, _, _⟩ := hD.msg.cell
            have HD := Lib.hid hD
            have HU := Lib.hid hu
            have hz2 : w0.heap.size + 1 < wr.heap.size := hD.msg.obj.blk.lt
            clear hS hown h4 hl9 hD hu
            rcases hexit with e | e
            · have hy1 := hy0.out e
              subst hy1
              have hyn : ys.length = 0 := by rw [e]; rfl
              have HE := Lib.hid e
              have hyz : ((ys.length : Int)) = 0 := by omega
              clear e hyn
              go_wp2_with (at_builtin; refine wpList_push rfl _ _ _ rfl w0.heap.size 23 (.slice none 0 0) 24 Try.underlying24 info_strs rfl vN cN rfl ((HD.out.alloc _).msg.ownN) _ (.slice Al l.length cl) rfl (Blk.new _ _ _) rfl (by have := HLen.out; have := HP.out; have := HD.out.msg.names.1; omega) (by have := HLen.out; have := HP.out; have := HD.out.msg.names.1; omega) (HD.out.alloc _).old.size ?_; intro A3 c3 w3 hown3 hg3 hat3; have hb3 := (HD.out.alloc _).msg.after ⟨_, List.mem_cons_of_mem _ (List.mem_cons_of_mem _ (List.mem_cons_self ..)), rfl⟩ hg3; have m1' := hb3.cell 3; have f1' := hb3.frozen 3; simp at m1'; have HB3 := Lib.hid hb3; clear hb3)
              go_roundg (go - 1)
              case measure => exact HG.out
              case rel =>
                have hl := HLen.out
                have hrr := HRun.out
                have hx := HX 108
                obtain ⟨z1, z2⟩ := H9.out
                have e1 : stepP 108 M xs st = ({ M with names := M.names ++ [l] }, xs2, st') := by
                  unfold stepP
                  rw [if_neg (by decide), if_neg (by decide), if_pos rfl, HQ.out]
                  rw [z1, z2]
                rw [e1] at hrr hx
                refine ⟨pos + 1, _, _, _, _, _, _, _, _, _, (HD.out.alloc _).pushN hown3 hg3 hat3 (strs_steady.keep HU.out ((Keep.refl _ _).alloc _)), hrr, HPos.out, ?_, hx⟩
                show _ ∧ _ ∧ _ ∧ _
                simp only [List.length_append, List.length_singleton]
                omega
            · have hgt : (ys.length : Int) < (i : Int) := by omega
              clear e
              go_wp2_with (at_builtin; refine wpList_push rfl _ _ _ rfl w0.heap.size 23 (.slice none 0 0) 24 Try.underlying24 info_strs rfl vN cN rfl ((HD.out.alloc _).msg.ownN) _ (.slice Al l.length cl) rfl (Blk.new _ _ _) rfl (by have := HLen.out; have := HP.out; have := HD.out.msg.names.1; omega) (by have := HLen.out; have := HP.out; have := HD.out.msg.names.1; omega) (HD.out.alloc _).old.size ?_; intro A3 c3 w3 hown3 hg3 hat3; have hb3 := (HD.out.alloc _).msg.after ⟨_, List.mem_cons_of_mem _ (List.mem_cons_of_mem _ (List.mem_cons_self ..)), rfl⟩ hg3; have m1' := hb3.cell 3; have f1' := hb3.frozen 3; simp at m1'; have HB3 := Lib.hid hb3; clear hb3)
              go_roundg (go - 1)
              case measure => exact HG.out
              case rel =>
                have hl := HLen.out
                have hrr := HRun.out
                have hx := HX 108
                obtain ⟨z1, z2⟩ := H9.out
                have e1 : stepP 108 M xs st = ({ M with names := M.names ++ [l] }, xs2, st') := by
                  unfold stepP
                  rw [if_neg (by decide), if_neg (by decide), if_pos rfl, HQ.out]
                  rw [z1, z2]
                rw [e1] at hrr hx
                refine ⟨pos + 1, _, _, _, _, _, _, _, _, _, (HD.out.alloc _).pushN hown3 hg3 hat3 (strs_steady.keep HU.out ((Keep.refl _ _).alloc _)), hrr, HPos.out, ?_, hx⟩
                show _ ∧ _ ∧ _ ∧ _
                simp only [List.length_append, List.length_singleton]
                omega
          · have hne : ys ≠ [] := fun e => hexit (.inl e)
            have hlen0 : 0 < ys.length := List.length_pos_iff.2 hne
            have hile : i ≤ ys.length := by have : i ≠ ys.length + 1 := fun e => hexit (.inr e); omega
            obtain ⟨i9, hi9, _, hsz9, _⟩ := info_parts info_u8
            obtain ⟨A5, zs', r5, e5, l5, q5⟩ := cut_mid (P := Try.prog) 26 5 .i64 .i64 Try.underlying26 hi9 hsz9 A2 c2 ys f i hfi hile q2
            clear hi9 hsz9 hexit
            by_cases hlast : i = ys.length
            · have hlast' : ((i : Int) == (ys.length : Int)) = true := by simp [hlast]
              by_cases hff : f = i
              · have hff' : ((f : Int) == (i : Int)) = true := by simp [hff]
                have HL2 := Lib.hid hlast
                have HL3 := Lib.hid hff
                clear hlast hff
                have hfail := fail_any _ (w0.heap.size + 1 + 1) xs2 st' 2 wr (fun ho => ho.2.1 (by simp)) hS.rdr
                have HF := Lib.hid hfail
                clear hfail
                clear hS h4 hown
                go_wp2_with fail
                refine HF.out.mono ?_
                rintro e w3 ⟨rfl, hr3, hg3⟩
                have HS3 := Lib.hid (HS.out.reader hr3 hg3)
                have H43 := Lib.hid (RR.keep HB.out (lit_steady _) (Out.side HS.out.msg.obj (b := w0.heap.size + 1 + 1) (by simp) hg3))
                have HO3 := Lib.hid (own_move_ HO.out (fun q hq => hg3.block q (own_block_lt HO.out hq).2 (fun e => (HS.out.loX q (by rw [hq]; simp)).2.1 (by injection e))))
                clear hr3 hg3
                have hcv := run_to_string (P := Try.prog) Try.underlying26 Try.underlying5 Try.underlying9 (c2 - f) (q5 _ _ _ H43.out)
                go_wp2_with (at_builtin; refine wpList_push rfl _ _ _ rfl w0.heap.size 9 (.string .empty) 16 Try.underlying23 info_str rfl _ (l.map strV) rfl (HO3.out.alloc _) _ (strV zs') rfl (Blk.new _ _ _) rfl (by have := HL1.out; rw [List.length_map]; omega) (by have := HL1.out; rw [List.length_map]; omega) (HS3.out.alloc _).old.size ?_; intro A3 c3 w4 hown4 hg4 hat4)
                go_roundg (gk - 1)
                case measure => have := hgk.out; omega
                case rel =>
                  have hp := hpure.out
                  have hg := hgk.out
                  obtain ⟨p1, p2⟩ := (HS3.out.alloc _).pushL hown4 hg4 hat4
                  have p3 := RR.move (RR.keep H43.out (lit_steady _) ((Keep.refl _ _).alloc _)) (lit_steady _) p2
                  have hown5 := hown4
                  rw [List.length_map] at p1 p3 hown5
                  have el : (l ++ [zs']).length = l.length + 1 := by simp
                  refine ⟨A3, c3, l ++ [zs'], i + 1, i + 1, _, by rw [el], congrArg (Value.int .i64) (by have := HL2.out; omega), congrArg (Value.int .i64) (by have := HL2.out; omega), Nat.le_refl _, by have := HL2.out; omega, by rw [el]; exact p1, ?_, by rw [el]; exact p3, ⟨?_, ?_, ?_⟩, show _ = _ by omega, fun h => absurd h hne⟩
                  · rw [el, show (l ++ [zs']).map strV = l.map strV ++ [strV zs'] by simp]; simpa using hown5
                  · rw [e5.out]; exact hp.1.last HL2.out
                  · have hz : zs' = [] := by rw [e5.out, List.drop_eq_nil_of_le]; rw [List.length_take]; have := HL3.out; omega
                    rw [hz, stL_empty, ← hp.2.1]
                  · rw [el]; omega
              · have hff' : ((f : Int) == (i : Int)) = false := by simp; omega
                have HL2 := Lib.hid hlast
                clear hlast
                clear hS h4 hown
                have hcv := run_to_string (P := Try.prog) Try.underlying26 Try.underlying5 Try.underlying9 (c2 - f) (q5 _ _ _ HB.out)
                go_wp2_with (at_builtin; refine wpList_push rfl _ _ _ rfl w0.heap.size 9 (.string .empty) 16 Try.underlying23 info_str rfl _ (l.map strV) rfl (HO.out.alloc _) _ (strV zs') rfl (Blk.new _ _ _) rfl (by have := HL1.out; rw [List.length_map]; omega) (by have := HL1.out; rw [List.length_map]; omega) (HS.out.alloc _).old.size ?_; intro A3 c3 w4 hown4 hg4 hat4)
                go_roundg (gk - 1)
                case measure => have := hgk.out; omega
                case rel =>
                  have hp := hpure.out
                  have hg := hgk.out
                  obtain ⟨p1, p2⟩ := (HS.out.alloc _).pushL hown4 hg4 hat4
                  have p3 := RR.move (RR.keep HB.out (lit_steady _) ((Keep.refl _ _).alloc _)) (lit_steady _) p2
                  have hown5 := hown4
                  rw [List.length_map] at p1 p3 hown5
                  have el : (l ++ [zs']).length = l.length + 1 := by simp
                  refine ⟨A3, c3, l ++ [zs'], i + 1, i + 1, _, by rw [el], congrArg (Value.int .i64) (by have := HL2.out; omega), congrArg (Value.int .i64) (by have := HL2.out; omega), Nat.le_refl _, by have := HL2.out; omega, by rw [el]; exact p1, ?_, by rw [el]; exact p3, ⟨?_, ?_, ?_⟩, show _ = _ by omega, fun h => absurd h hne⟩
                  · rw [el, show (l ++ [zs']).map strV = l.map strV ++ [strV zs'] by simp]; simpa using hown5
                  · rw [e5.out]; exact hp.1.last HL2.out
                  · have hz : zs' ≠ [] := by
                      intro e
                      have := congrArg List.length (e5.out.symm.trans e)
                      rw [List.length_drop, List.length_take] at this
                      simp at this
                      omega
                    rw [stL_more _ _ _ hz]; exact hp.2.1
                  · rw [el]; omega
            · have hlt : i < ys.length := by omega
              obtain ⟨y, hy⟩ : ∃ y, ys[i]? = some y := ⟨_, List.getElem?_eq_getElem hlt⟩
              have hnl : ((i : Int) == (ys.length : Int)) = false := by simp; omega
              obtain ⟨ad2, rfl, hok2, hc2⟩ := RB.at h4 hlen0
              have d0 := hc2 i y hy
              clear hc2
              by_cases hcom : y = 44
              · subst hcom
                have hcom := hy
                have HC := Lib.hid hy
                have d1 : wr.cell? (ad2.add i) = some (.int .u8 44) := d0
                clear hy d0 hcom
                by_cases hff : f = i
                · have hff' : ((f : Int) == (i : Int)) = true := by simp [hff]
                  have HL3 := Lib.hid hff
                  clear hff
                  have hfail := fail_any _ (w0.heap.size + 1 + 1) xs2 st' 2 wr (fun ho => ho.2.1 (by simp)) hS.rdr
                  have HF := Lib.hid hfail
                  clear hfail
                  clear hS h4 hown
                  go_wp2_with fail
                  refine HF.out.mono ?_
                  rintro e w3 ⟨rfl, hr3, hg3⟩
                  have HS3 := Lib.hid (HS.out.reader hr3 hg3)
                  have H43 := Lib.hid (RR.keep HB.out (lit_steady _) (Out.side HS.out.msg.obj (b := w0.heap.size + 1 + 1) (by simp) hg3))
                  have HO3 := Lib.hid (own_move_ HO.out (fun q hq => hg3.block q (own_block_lt HO.out hq).2 (fun e => (HS.out.loX q (by rw [hq]; simp)).2.1 (by injection e))))
                  clear hr3 hg3
                  have hcv := run_to_string (P := Try.prog) Try.underlying26 Try.underlying5 Try.underlying9 (c2 - f) (q5 _ _ _ H43.out)
                  go_wp2_with (at_builtin; refine wpList_push rfl _ _ _ rfl w0.heap.size 9 (.string .empty) 16 Try.underlying23 info_str rfl _ (l.map strV) rfl (HO3.out.alloc _) _ (strV zs') rfl (Blk.new _ _ _) rfl (by have := HL1.out; rw [List.length_map]; omega) (by have := HL1.out; rw [List.length_map]; omega) (HS3.out.alloc _).old.size ?_; intro A3 c3 w4 hown4 hg4 hat4)
                  go_roundg (gk - 1)
                  case measure => have := hgk.out; omega
                  case rel =>
                    have hp := hpure.out
                    have hg := hgk.out
                    obtain ⟨p1, p2⟩ := (HS3.out.alloc _).pushL hown4 hg4 hat4
                    have p3 := RR.move (RR.keep H43.out (lit_steady _) ((Keep.refl _ _).alloc _)) (lit_steady _) p2
                    have hown5 := hown4
                    rw [List.length_map] at p1 p3 hown5
                    have el : (l ++ [zs']).length = l.length + 1 := by simp
                    refine ⟨A3, c3, l ++ [zs'], i + 1, i + 1, _, by rw [el], by go_num, by go_num, Nat.le_refl _, by omega, by rw [el]; exact p1, ?_, by rw [el]; exact p3, ⟨?_, ?_, ?_⟩, show _ = _ by omega, fun h => absurd h hne⟩
                    · rw [el, show (l ++ [zs']).map strV = l.map strV ++ [strV zs'] by simp]; simpa using hown5
                    · rw [e5.out]; exact hp.1.comma HC.out
                    · have hz : zs' = [] := by rw [e5.out, List.drop_eq_nil_of_le]; rw [List.length_take]; have := HL3.out; omega
                      rw [hz, stL_empty, ← hp.2.1]
                    · rw [el]; omega
                · have hff' : ((f : Int) == (i : Int)) = false := by simp; omega
                  clear hS h4 hown
                  have hcv := run_to_string (P := Try.prog) Try.underlying26 Try.underlying5 Try.underlying9 (c2 - f) (q5 _ _ _ HB.out)
                  go_wp2_with (at_builtin; refine wpList_push rfl _ _ _ rfl w0.heap.size 9 (.string .empty) 16 Try.underlying23 info_str rfl _ (l.map strV) rfl (HO.out.alloc _) _ (strV zs') rfl (Blk.new _ _ _) rfl (by have := HL1.out; rw [List.length_map]; omega) (by have := HL1.out; rw [List.length_map]; omega) (HS.out.alloc _).old.size ?_; intro A3 c3 w4 hown4 hg4 hat4)
                  go_roundg (gk - 1)
                  case measure => have := hgk.out; omega
                  case rel =>
                    have hp := hpure.out
                    have hg := hgk.out
                    obtain ⟨p1, p2⟩ := (HS.out.alloc _).pushL hown4 hg4 hat4
                    have p3 := RR.move (RR.keep HB.out (lit_steady _) ((Keep.refl _ _).alloc _)) (lit_steady _) p2
                    have hown5 := hown4
                    rw [List.length_map] at p1 p3 hown5
                    have el : (l ++ [zs']).length = l.length + 1 := by simp
                    refine ⟨A3, c3, l ++ [zs'], i + 1, i + 1, _, by rw [el], by go_num, by go_num, Nat.le_refl _, by omega, by rw [el]; exact p1, ?_, by rw [el]; exact p3, ⟨?_, ?_, ?_⟩, show _ = _ by omega, fun h => absurd h hne⟩
                    · rw [el, show (l ++ [zs']).map strV = l.map strV ++ [strV zs'] by simp]; simpa using hown5
                    · rw [e5.out]; exact hp.1.comma HC.out
                    · have hz : zs' ≠ [] := by
                        intro e
                        have := congrArg List.length (e5.out.symm.trans e)
                        rw [List.length_drop, List.length_take] at this
                        simp at this
                        omega
                      rw [stL_more _ _ _ hz]; exact hp.2.1
                    · rw [el]; omega
              ·
                have hb : ((y.toNat : Int) == 44) = false := by
                  rw [beq_eq_false_iff_ne]
                  intro e
                  exact hcom (UInt8.toNat_inj.1 (by have : y.toNat = 44 := by omega
                                                    rw [this]; rfl))
                have HC := Lib.hid hy
                have HNC := Lib.hid hcom
                clear hS h4 hown hcom hy
                go_wp2_with fail
                go_roundg (gk - 1)
                case measure => have := hgk.out; omega
                case rel =>
                  have hp := hpure.out
                  have hg := hgk.out
                  exact ⟨Al, cl, l, f, i + 1, st', rfl, rfl, by go_num, by omega, by omega, HS.out, by have := HO.out; rw [List.length_map] at this; exact this, HB.out, ⟨hp.1.other HC.out HNC.out, hp.2.1, by omega⟩, show _ = _ by omega, fun h => absurd h hne⟩
      ·
        have hnx1 : ∀ ty, (Instr.next (.pointer (some ⟨w0.heap.size + 1 + 1 + 1, 0, none⟩)) true ty).run Try.prog wr = .ok (.tuple #[.bool true, .int .i64 (pos : Int), .int .i32 116]) w1 := hnx
        clear hnx hmem hch
        have HN := Lib.hid (take_any _ (w0.heap.size + 1 + 1) xs st 1 w1 (fun ho => ho.2.1 (by simp)) HR1.out.msg.obj.fresh (by omega) HR1.out.rdr)
        go_wp2_with fail
        refine HN.out.mono ?_
        rintro e w2 ⟨v2, rfl, ⟨A2, c2, rfl, q2, q3, q4⟩, hr2, hg2⟩
        obtain ⟨y, hy⟩ := one (takeP_length xs st 1 (by omega))
        rw [hy] at q2 q4 ⊢
        obtain ⟨ad2, rfl, hok2, hc2⟩ := RB.at q4 (by simp)
        have HR2 := Lib.hid (HR1.out.reader hr2 hg2)
        have d0 : w2.cell? ad2 = _ := hc2 0 y rfl
        obtain ⟨_, _, _, _, m4', _⟩ := HR2.out.msg.cell
        have Hy := Lib.hid hy
        clear hc2 q4 hr2 hy
        go_wp2_with fail
        have hz2 : w0.heap.size + 1 < w2.heap.size := HR2.out.msg.obj.blk.lt
        have hz3 := blk_lt_of_cell d0
        go_region_law ((refine step_push rfl _ _ _ rfl w0.heap.size 4 (.bool false) 1 Try.underlying25 info_bool rfl vT (M.truths.map Value.bool) rfl ((HR2.out.drew.alloc _).msg.ownT) _ (.bool ((y.toNat : Int) != 0)) rfl (Blk.new _ _ _) rfl (by have := HLen.out; have := HP.out; rw [List.length_map]; omega) (by have := HLen.out; have := HP.out; rw [List.length_map]; omega) (HR2.out.drew.alloc _).old.size ?_; intro A3 c3 w3 hown3 hg3 hat3; have hb3 := (HR2.out.drew.alloc _).msg.after ⟨_, List.mem_cons_of_mem _ (List.mem_cons_of_mem _ (List.mem_cons_of_mem _ (List.mem_cons_self ..))), rfl⟩ hg3; have m1' := hb3.cell 4; have f1' := hb3.frozen 4; simp at m1'; have HB3 := Lib.hid hb3; clear hb3))
        all_goals
          go_wp2_with fail
          go_roundg (gk - 1)
          case measure => exact HG.out
          case rel =>
            have hl := HLen.out
            have hrr := HRun.out
            rw [List.length_map] at hown3 hat3
            have e1 : stepP 116 M xs st = ({ M with truths := M.truths ++ [(y.toNat : Int) != 0] }, (takeP xs st 1).2) := by
              unfold stepP
              rw [if_neg (by decide), if_neg (by decide), if_neg (by decide), if_pos rfl, Hy.out]
              simp only [List.headD_cons]
              rw [byte_ne_zero]
            rw [e1] at hrr
            refine ⟨pos + 1, _, _, _, _, _, _, _, _, _, (HR2.out.drew.alloc _).pushT hown3 hg3 hat3, hrr, HPos.out, ?_, by have := HX 116; rw [e1] at this; exact this⟩
            show _ ∧ _ ∧ _ ∧ _
            simp only [List.length_append, List.length_singleton]
            omega
      ·
        have hnx1 : ∀ ty, (Instr.next (.pointer (some ⟨w0.heap.size + 1 + 1 + 1, 0, none⟩)) true ty).run Try.prog wr = .ok (.tuple #[.bool true, .int .i64 (pos : Int), .int .i32 99]) w1 := hnx
        clear hnx hmem hch
        have HN := Lib.hid (take_any _ (w0.heap.size + 1 + 1) xs st 16 w1 (fun ho => ho.2.1 (by simp)) HR1.out.msg.obj.fresh (by omega) HR1.out.rdr)
        go_wp2_with fail
        refine HN.out.mono ?_
        rintro e w2 ⟨v2, rfl, ⟨A2, c2, rfl, q2, q3, q4⟩, hr2, hg2⟩
        have HR2 := Lib.hid (HR1.out.reader hr2 hg2)
        obtain ⟨_, _, _, _, _, m5'⟩ := HR2.out.msg.cell
        have fz' := HR2.out.msg.obj.blk.frozen 5
        have HQ := Lib.hid (show Byts _ w2 _ _ from ⟨A2, c2, rfl, q2, q3, q4⟩)
        clear q4 hr2
        go_wp2_with fail
        go_roundg (gk - 1)
        case measure => exact HG.out
        case rel =>
          have hl := HLen.out
          refine ⟨pos + 1, _, _, _, _, _, _, _, _, _, HR2.out.setB HQ.out, HRun.out, HPos.out, ?_, HX 99⟩
          exact ⟨by show M.ints.length ≤ _; omega, by show M.strings.length ≤ _; omega, by show M.names.length ≤ _; omega, by show M.truths.length ≤ _; omega⟩
      ·
        have hnx1 : ∀ ty, (Instr.next (.pointer (some ⟨w0.heap.size + 1 + 1 + 1, 0, none⟩)) true ty).run Try.prog wr = .ok (.tuple #[.bool true, .int .i64 (pos : Int), .int .i32 114]) w1 := hnx
        clear hnx hmem hch
        obtain ⟨A2, c2, q1, q2, q3, q4⟩ := HR1.out.rdr
        have g0 := q1.cell 0
        have g1 := q1.cell 1
        have gf := q1.frozen 0
        simp at g0 g1
        have fz' := fz 5
        have HQ := Lib.hid (show Byts _ w1 _ _ from ⟨A2, c2, rfl, q2, q3, q4⟩)
        have HS := Lib.hid (HR1.out.setB HQ.out)
        clear q4 q1 fz
        go_wp2_with fail
        go_roundg (gk - 1)
        case measure => exact HG.out
        case rel =>
          have hl := HLen.out
          refine ⟨pos + 1, _, _, _, _, _, _, _, _, _, HS.out.emptied, HRun.out, HPos.out, ?_, HX 114⟩
          exact ⟨by show M.ints.length ≤ _; omega, by show M.strings.length ≤ _; omega, by show M.names.length ≤ _; omega, by show M.truths.length ≤ _; omega⟩
    ·
      have hfin : runP form (Msg.none_ x.toNat) r 0 = (M, xs, st) := by
        have := hrun.out; rw [List.drop_eq_nil_of_le (by omega)] at this; exact this.symm
      have hnum : M.number = x.toNat := by have := runP_number form (Msg.none_ x.toNat) r 0; rw [hfin] at this; exact this
      have hread : readP (x :: r) = (M, endP x.toNat xs st) := by rw [readP_eq HF.out, hfin]
      have hnx : ∀ ty, (Instr.next (.pointer (some ⟨w0.heap.size + 1 + 1 + 1, 0, none⟩)) true ty).run Try.prog wr = .ok (.tuple #[.bool false]) wr := fun ty => next_over ty hR.iter (by omega)
      have HRead := Lib.hid hread
      have HNum := Lib.hid hnum
      obtain ⟨AI, cI, hvI, _, _⟩ := own_form hR.msg.ownI
      obtain ⟨AS, cS, hvS, _, _⟩ := own_form hR.msg.ownS
      obtain ⟨AN, cN', hvN, _, _⟩ := own_form hR.msg.ownN
      obtain ⟨AT, cT, hvT, _, _⟩ := own_form hR.msg.ownT
      obtain ⟨AB, cB, hvB, _, _, _⟩ := hR.msg.bytes
      rw [List.length_map] at hvI hvS hvT
      rw [hR.msg.names.1] at hvN
      subst hvI hvS hvN hvT hvB
      have HRR := Lib.hid hR
      obtain ⟨A3, c3, q1, q2, q3, q4⟩ := hR.rdr
      have g0 := q1.cell 0
      have g1 := q1.cell 1
      simp at g0 g1
      obtain ⟨m0, m1, m2, m3, m4, m5⟩ := hR.msg.cell
      rw [hnum] at m0
      clear hrun hfin hnum hread hR hpos q1 q4
      have n1 : (w0.heap.size + 1 + 1 = w0.heap.size) = False := eq_false (by omega)
      have n2 : (w0.heap.size = w0.heap.size + 1 + 1) = False := eq_false (by omega)
      clear r3 hrange c0 q2 hc l2
      by_cases hs : st = 0
      · subst hs
        by_cases hx : xs = []
        · subst hx
          have e1 : endP x.toNat [] 0 = 0 := by unfold endP; simp
          obtain ⟨u0, u1, u2, u3, u4, u5, r0, r1, r2, r3, r4, r5, rf⟩ := res_cells HRR.out
          go_wp2_with fail
          go_region_held3 (fun w' => w'.cell? ⟨w0.heap.size + 1, 0, none⟩ = some (.int .i64 (x.toNat : Int)) ∧ w'.cell? ⟨w0.heap.size + 1, 1, none⟩ = some (.slice AI M.ints.length cI) ∧ w'.cell? ⟨w0.heap.size + 1, 2, none⟩ = some (.slice AS M.strings.length cS) ∧ w'.cell? ⟨w0.heap.size + 1, 3, none⟩ = some (.slice AN M.names.length cN') ∧ w'.cell? ⟨w0.heap.size + 1, 4, none⟩ = some (.slice AT M.truths.length cT) ∧ w'.cell? ⟨w0.heap.size + 1, 5, none⟩ = some (.slice AB M.bytes.length cB) ∧ w'.cell? ⟨w0.heap.size + 1 + 1, 1, none⟩ = some (.int .i64 0)) (go_keep) (first | fail)
          go_wp2_with fail
          refine bodyPost_ret (v := .tuple #[.agg #[.int .i64 (x.toNat : Int), .slice AI M.ints.length cI, .slice AS M.strings.length cS, .slice AN M.names.length cN', .slice AT M.truths.length cT, .slice AB M.bytes.length cB], .int .i64 0]) (by simp [results, Try.results9, go_sem, r0, r1, r2, r3, r4, r5]) rfl ?_
          exact read_close HRR.out HNum.out (HRead.out.trans (by rw [e1])) (by first | exact grownBy_drew (grownBy_set (grownBy_set (grownBy_set (grownBy_set (grownBy_set (grownBy_set (grownBy_refl _ _) _ _) _ _) _ _) _ _) _ _) _ _) | exact grownBy_set (grownBy_set (grownBy_set (grownBy_set (grownBy_set (grownBy_set (grownBy_drew (grownBy_refl _ _)) _ _) _ _) _ _) _ _) _ _) _ _)
        · have hxl : 0 < xs.length := List.length_pos_iff.2 hx
          by_cases h52 : x.toNat = 52
          · have e1 : endP x.toNat xs 0 = 2 := by unfold endP; simp [hx, h52]
            have h52' : ((x.toNat : Int) == 52) = true := by simp [h52]
            have H52 := Lib.hid h52
            clear h52 hx
            have HF := Lib.hid (fail_any _ (w0.heap.size + 1 + 1) xs 0 2 wr (fun ho => ho.2.1 (by simp)) HRR.out.rdr)
            go_wp2_with fail
            refine HF.out.mono ?_
            rintro e w3 ⟨rfl, hr3, hg3⟩
            have HR3 := Lib.hid (HRR.out.reader hr3 hg3)
            obtain ⟨u0, u1, u2, u3, u4, u5, r0, r1, r2, r3, r4, r5, rf⟩ := res_cells HR3.out
            obtain ⟨m0, m1, m2, m3, m4, m5⟩ := HR3.out.msg.cell
            rw [HNum.out] at m0
            obtain ⟨A4, c4, q1, q2, _, _⟩ := hr3
            have g0 := q1.cell 0
            simp at g0
            have g1 : w3.cell? ⟨w0.heap.size + 1 + 1, 1, none⟩ = some (.int .i64 2) := q1.cell 1
            clear q1 hg3
            go_wp2_with fail
            go_region_held3 (fun w' => w'.cell? ⟨w0.heap.size + 1, 0, none⟩ = some (.int .i64 (x.toNat : Int)) ∧ w'.cell? ⟨w0.heap.size + 1, 1, none⟩ = some (.slice AI M.ints.length cI) ∧ w'.cell? ⟨w0.heap.size + 1, 2, none⟩ = some (.slice AS M.strings.length cS) ∧ w'.cell? ⟨w0.heap.size + 1, 3, none⟩ = some (.slice AN M.names.length cN') ∧ w'.cell? ⟨w0.heap.size + 1, 4, none⟩ = some (.slice AT M.truths.length cT) ∧ w'.cell? ⟨w0.heap.size + 1, 5, none⟩ = some (.slice AB M.bytes.length cB) ∧ w'.cell? ⟨w0.heap.size + 1 + 1, 1, none⟩ = some (.int .i64 2)) (go_keep) (first | fail)
            go_wp2_with fail
            refine bodyPost_ret (v := .tuple #[.agg #[.int .i64 (x.toNat : Int), .slice AI M.ints.length cI, .slice AS M.strings.length cS, .slice AN M.names.length cN', .slice AT M.truths.length cT, .slice AB M.bytes.length cB], .int .i64 2]) (by simp [results, Try.results9, go_sem, r0, r1, r2, r3, r4, r5]) rfl ?_
            exact read_close HR3.out HNum.out (HRead.out.trans (by rw [e1])) (by first | exact grownBy_drew (grownBy_set (grownBy_set (grownBy_set (grownBy_set (grownBy_set (grownBy_set (grownBy_refl _ _) _ _) _ _) _ _) _ _) _ _) _ _) | exact grownBy_set (grownBy_set (grownBy_set (grownBy_set (grownBy_set (grownBy_set (grownBy_drew (grownBy_refl _ _)) _ _) _ _) _ _) _ _) _ _) _ _)
          · have e1 : endP x.toNat xs 0 = 1 := by unfold endP; rw [if_pos ⟨rfl, hx⟩, if_neg (by omega)]
            have h52' : ((x.toNat : Int) == 52) = false := by simp; omega
            clear h52 hx
            have HF := Lib.hid (fail_any _ (w0.heap.size + 1 + 1) xs 0 1 wr (fun ho => ho.2.1 (by simp)) HRR.out.rdr)
            go_wp2_with fail
            refine HF.out.mono ?_
            rintro e w3 ⟨rfl, hr3, hg3⟩
            have HR3 := Lib.hid (HRR.out.reader hr3 hg3)
            obtain ⟨u0, u1, u2, u3, u4, u5, r0, r1, r2, r3, r4, r5, rf⟩ := res_cells HR3.out
            obtain ⟨m0, m1, m2, m3, m4, m5⟩ := HR3.out.msg.cell
            rw [HNum.out] at m0
            obtain ⟨A4, c4, q1, q2, _, _⟩ := hr3
            have g0 := q1.cell 0
            simp at g0
            have g1 : w3.cell? ⟨w0.heap.size + 1 + 1, 1, none⟩ = some (.int .i64 1) := q1.cell 1
            clear q1 hg3
            go_wp2_with fail
            go_region_held3 (fun w' => w'.cell? ⟨w0.heap.size + 1, 0, none⟩ = some (.int .i64 (x.toNat : Int)) ∧ w'.cell? ⟨w0.heap.size + 1, 1, none⟩ = some (.slice AI M.ints.length cI) ∧ w'.cell? ⟨w0.heap.size + 1, 2, none⟩ = some (.slice AS M.strings.length cS) ∧ w'.cell? ⟨w0.heap.size + 1, 3, none⟩ = some (.slice AN M.names.length cN') ∧ w'.cell? ⟨w0.heap.size + 1, 4, none⟩ = some (.slice AT M.truths.length cT) ∧ w'.cell? ⟨w0.heap.size + 1, 5, none⟩ = some (.slice AB M.bytes.length cB) ∧ w'.cell? ⟨w0.heap.size + 1 + 1, 1, none⟩ = some (.int .i64 1)) (go_keep) (first | fail)
            go_wp2_with fail
            refine bodyPost_ret (v := .tuple #[.agg #[.int .i64 (x.toNat : Int), .slice AI M.ints.length cI, .slice AS M.strings.length cS, .slice AN M.names.length cN', .slice AT M.truths.length cT, .slice AB M.bytes.length cB], .int .i64 1]) (by simp [results, Try.results9, go_sem, r0, r1, r2, r3, r4, r5]) rfl ?_
            exact read_close HR3.out HNum.out (HRead.out.trans (by rw [e1])) (by first | exact grownBy_drew (grownBy_set (grownBy_set (grownBy_set (grownBy_set (grownBy_set (grownBy_set (grownBy_refl _ _) _ _) _ _) _ _) _ _) _ _) _ _) | exact grownBy_set (grownBy_set (grownBy_set (grownBy_set (grownBy_set (grownBy_set (grownBy_drew (grownBy_refl _ _)) _ _) _ _) _ _) _ _) _ _) _ _)
      · have e1 : endP x.toNat xs st = st := by unfold endP; rw [if_neg (fun h => hs h.1)]
        have hs' : ((st : Int) == 0) = false := by simp; omega
        clear hs
        obtain ⟨u0, u1, u2, u3, u4, u5, r0, r1, r2, r3, r4, r5, rf⟩ := res_cells HRR.out
        go_wp2_with fail
        go_region_held3 (fun w' => w'.cell? ⟨w0.heap.size + 1, 0, none⟩ = some (.int .i64 (x.toNat : Int)) ∧ w'.cell? ⟨w0.heap.size + 1, 1, none⟩ = some (.slice AI M.ints.length cI) ∧ w'.cell? ⟨w0.heap.size + 1, 2, none⟩ = some (.slice AS M.strings.length cS) ∧ w'.cell? ⟨w0.heap.size + 1, 3, none⟩ = some (.slice AN M.names.length cN') ∧ w'.cell? ⟨w0.heap.size + 1, 4, none⟩ = some (.slice AT M.truths.length cT) ∧ w'.cell? ⟨w0.heap.size + 1, 5, none⟩ = some (.slice AB M.bytes.length cB) ∧ w'.cell? ⟨w0.heap.size + 1 + 1, 1, none⟩ = some (.int .i64 (st : Int))) (go_keep) (first | fail)
        go_wp2_with fail
        refine bodyPost_ret (v := .tuple #[.agg #[.int .i64 (x.toNat : Int), .slice AI M.ints.length cI, .slice AS M.strings.length cS, .slice AN M.names.length cN', .slice AT M.truths.length cT, .slice AB M.bytes.length cB], .int .i64 (st : Int)]) (by simp [results, Try.results9, go_sem, r0, r1, r2, r3, r4, r5]) rfl ?_
        exact read_close HRR.out HNum.out (HRead.out.trans (by rw [e1])) (by first | exact grownBy_drew (grownBy_set (grownBy_set (grownBy_set (grownBy_set (grownBy_set (grownBy_set (grownBy_refl _ _) _ _) _ _) _ _) _ _) _ _) _ _) | exact grownBy_set (grownBy_set (grownBy_set (grownBy_set (grownBy_set (grownBy_set (grownBy_drew (grownBy_refl _ _)) _ _) _ _) _ _) _ _) _ _) _ _)

end Go.Proofs.Ytnlkgaobbobakaa
