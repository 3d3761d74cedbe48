/- impl.ReadMessage: the walk. -/
import Derived.Test.YtnlkgaobbobakaaImSt
set_option linter.unusedVariables false
set_option linter.unusedSimpArgs false
namespace Go.Proofs.Ytnlkgaobbobakaa
open Go.RowKit

/-- The reading closure under calm. -/
abbrev W4 (w0 : World) (ad : Addr) (n c : Nat) : World :=
  (((w0.alloc (.cells #[.slice (some ad) n c] 26)).alloc (.cells #[.int .i64 0, .slice none 0 0, .slice none 0 0, .slice none 0 0, .slice none 0 0, .slice none 0 0] 28)).alloc (.cells #[.slice none 0 0] 58)).alloc (.cells #[.nilIface] 60)
structure ImC (w0 : World) (ad : Addr) (n c : Nat) (w' : World) : Prop where
  old : Below w0.heap.size w0 w'
  b1 : Blk w' w0.heap.size 26 #[.slice (some ad) n c]
  bm : Blk w' (w0.heap.size + 1) 28 #[.int .i64 0, .slice none 0 0, .slice none 0 0, .slice none 0 0, .slice none 0 0, .slice none 0 0]
def ImD (w0 : World) (L : List (UInt8 × Nat)) (xs : List UInt8) (w' : World) : Prop :=
  (∃ vals gp Af t cs, rdAll (L.map (·.1)) xs = some (vals, []) ∧ w'.cell? ⟨w0.heap.size + 1 + 1, 0, none⟩ = some (.slice Af L.length L.length) ∧ w'.cell? ⟨w0.heap.size + 1 + 1 + 1, 0, none⟩ = some .nilIface ∧ gp ≠ w0.heap.size + 1 ∧ Blk w' gp t cs ∧
    RR (lit fun q : UInt8 × Nat => fieldV gp q.1 q.2) (old_ w' (w0.heap.size + 1)) w' Af L ∧ vals.length = L.length ∧ Got (old_ w' (w0.heap.size + 1)) w' cs L vals) ∨
  ((∀ vals, rdAll (L.map (·.1)) xs ≠ some (vals, [])) ∧ ∃ T v, w'.cell? ⟨w0.heap.size + 1 + 1 + 1, 0, none⟩ = some (.iface T v))
theorem im_calm (w0 : World) (ad : Addr) (c : Nat) (x : UInt8) (xs : List UInt8) (L : List (UInt8 × Nat)) (hz : ZzAll x xs L) (hl : xs.length ≤ 299999) (hr : RR (lit byteV) all_ w0 (some ad) (x :: xs)) :
    Calls Try.prog 24 #[.func (.func 25) #[] #[.pointer (some ⟨w0.heap.size, 0, none⟩), .pointer (some ⟨w0.heap.size + 1 + 1, 0, none⟩), .pointer (some ⟨w0.heap.size + 1 + 1 + 1, 0, none⟩)]] (W4 w0 ad (xs.length + 1) c)
      fun e w' => e = .returned (.bool true) ∧ ImC w0 ad (xs.length + 1) c w' ∧ ImD w0 L xs w' := by
  have hs4 : (W4 w0 ad (xs.length + 1) c).heap.size = w0.heap.size + 1 + 1 + 1 + 1 := by simp [W4]
  obtain ⟨Wc, hWc⟩ : ∃ W, W = (W4 w0 ad (xs.length + 1) c).alloc (.cells #[.bool false] 4) := ⟨_, rfl⟩
  have hsc : Wc.heap.size = w0.heap.size + 1 + 1 + 1 + 1 + 1 := by rw [hWc]; simp [W4]
  have b1 : Blk Wc w0.heap.size 26 #[.slice (some ad) (xs.length + 1) c] := by
    rw [hWc]; exact ((((Blk.new _ _ _).alloc _).alloc _).alloc _).alloc _
  have bm : Blk Wc (w0.heap.size + 1) 28 #[.int .i64 0, .slice none 0 0, .slice none 0 0, .slice none 0 0, .slice none 0 0, .slice none 0 0] := by
    rw [hWc]
    have := Blk.new (w0.alloc (.cells #[.slice (some ad) (xs.length + 1) c] 26)) 28 #[.int .i64 0, .slice none 0 0, .slice none 0 0, .slice none 0 0, .slice none 0 0, .slice none 0 0]
    rw [show (w0.alloc (.cells #[.slice (some ad) (xs.length + 1) c] 26)).heap.size = w0.heap.size + 1 by simp] at this
    exact ((this.alloc _).alloc _).alloc _
  have b4 : Blk Wc (w0.heap.size + 1 + 1) 58 #[.slice none 0 0] := by
    rw [hWc]
    have := Blk.new ((w0.alloc (.cells #[.slice (some ad) (xs.length + 1) c] 26)).alloc (.cells #[.int .i64 0, .slice none 0 0, .slice none 0 0, .slice none 0 0, .slice none 0 0, .slice none 0 0] 28)) 58 #[.slice none 0 0]
    simp only [World.size_alloc] at this
    exact (this.alloc _).alloc _
  have b5 : Blk Wc (w0.heap.size + 1 + 1 + 1) 60 #[.nilIface] := by
    rw [hWc]
    have := Blk.new (((w0.alloc (.cells #[.slice (some ad) (xs.length + 1) c] 26)).alloc (.cells #[.int .i64 0, .slice none 0 0, .slice none 0 0, .slice none 0 0, .slice none 0 0, .slice none 0 0] 28)).alloc (.cells #[.slice none 0 0] 58)) 60 #[.nilIface]
    simp only [World.size_alloc] at this
    exact this.alloc _
  have bc : Blk Wc (w0.heap.size + 1 + 1 + 1 + 1) 4 #[.bool false] := by
    rw [hWc, ← hs4]; exact Blk.new _ _ _
  have hold : Below w0.heap.size w0 Wc := by
    rw [hWc]
    exact (((((Below.refl _ _).alloc (Nat.le_refl _) _).alloc (by simp only [World.size_alloc]; omega) _).alloc (by simp only [World.size_alloc]; omega) _).alloc (by simp only [World.size_alloc]; omega) _).alloc (by rw [hs4]; omega) _
  have hr1 : RR (lit byteV) all_ Wc (some ad) (x :: xs) := hr.keep (lit_steady _) (Keep.of_below hold)
  have h1 := rm1 (some ad) c x xs Wc w0.heap.size (w0.heap.size + 1 + 1) (w0.heap.size + 1 + 1 + 1) L (.slice none 0 0) .nilIface (by omega) hr1 (b1.cell 0) (b4.cell 0) (b5.cell 0) (b4.frozen 0) (b5.frozen 0) (by omega) hz
  have hcf : ∀ (a b d : Nat) (W : World), (callFunc 25 #[.pointer (some ⟨a, 0, none⟩), .pointer (some ⟨b, 0, none⟩), .pointer (some ⟨d, 0, none⟩)]).run Try.prog W = .ok (.enter 25 #[.pointer (some ⟨a, 0, none⟩), .pointer (some ⟨b, 0, none⟩), .pointer (some ⟨d, 0, none⟩)]) W := fun a b d W => by kernel_rfl
  have hc := calm_walk 25 #[.pointer (some ⟨w0.heap.size, 0, none⟩), .pointer (some ⟨w0.heap.size + 1 + 1, 0, none⟩), .pointer (some ⟨w0.heap.size + 1 + 1 + 1, 0, none⟩)] (W4 w0 ad (xs.length + 1) c) (RmEnd Wc (w0.heap.size + 1 + 1) (w0.heap.size + 1 + 1 + 1) L xs)
    (hcf _ _ _) (by
      rw [← hWc, hs4]
      refine h1.mono ?_
      rintro e w1 ⟨rfl, h⟩
      have := bc.keep h.1 ⟨by omega, by omega⟩
      exact ⟨rfl, this.cell 0, this.frozen 0, h⟩)
  refine hc.mono ?_
  rintro e w' ⟨rfl, w1, ⟨hk, hd⟩, rfl⟩
  rw [hs4]
  have hfar : ∀ {g : Nat} {t : TypeId} {cs : Array Value}, Blk w1 g t cs → g ≠ w0.heap.size + 1 + 1 + 1 + 1 → Blk (w1.setCell ⟨w0.heap.size + 1 + 1 + 1 + 1, 0, none⟩ (.bool true)) g t cs := fun h hne => h.far hne _
  have hks : Keep (but (w0.heap.size + 1 + 1 + 1 + 1)) w1 (w1.setCell ⟨w0.heap.size + 1 + 1 + 1 + 1, 0, none⟩ (.bool true)) := (Keep.refl _ w1).setCell (fun _ ho => ho rfl) _
  have hss : (w1.setCell ⟨w0.heap.size + 1 + 1 + 1 + 1, 0, none⟩ (.bool true)).heap.size = w1.heap.size := by simp [World.setCell]
  have h1s := hk.size
  refine ⟨rfl, ⟨?_, hfar (b1.keep hk ⟨by omega, by omega⟩) (by omega), hfar (bm.keep hk ⟨by omega, by omega⟩) (by omega)⟩, ?_⟩
  · have h2 : Keep (fun b => b < w0.heap.size) w0 w1 := (Keep.of_below hold).then hk (fun b hb _ => ⟨by omega, by omega⟩)
    have h3 := h2.then hks (fun b hb _ => by show b ≠ _; omega)
    exact ⟨h3.os, h3.tape, h3.output, h3.size, fun b hb => h3.block b hb hb⟩
  · rcases hd with ⟨vals, gp, Af, t, cs, e1, e2, e3, e4, e5, e6, e7, e8⟩ | ⟨e1, T, v, e2⟩
    · refine .inl ⟨vals, gp, Af, t, cs, e1, hks.cell (by show _ ≠ _; simp) e2, hks.cell (by show _ ≠ _; simp) e3, by omega, hfar e5 (by omega), ?_, e7, ?_⟩
      · have := (RR.both e6).move (lit_steady _) (hm := fun b hb ho => ⟨?_, hks.block b hb (by have := ho.1; show b ≠ _; omega)⟩) (ok' := old_ (w1.setCell ⟨w0.heap.size + 1 + 1 + 1 + 1, 0, none⟩ (.bool true)) (w0.heap.size + 1))
        · exact this
        · have := ho.1; exact ⟨by rw [hss]; exact hb, by omega⟩
      · intro i fv q h1 h2
        have h3 := (e8 i fv q h1 h2).lt_.mono (ok' := fun b => Wc.heap.size ≤ b ∧ b < w1.heap.size) (fun b _ hb => ⟨hb.1.1, hb.2⟩)
        refine ((h3.away (fun _ _ _ => rfl) ((Keep.refl _ w1).setCell (fun _ ho => ?_) (.bool true))).mono (fun b _ hb => ⟨by rw [hss]; exact hb.2, by have := hb.1; omega⟩))
        have := ho.1
        simp at this
        omega
    · exact .inr ⟨e1, T, v, hks.cell (by show _ ≠ _; simp) e2⟩

/-- How impl.ReadMessage ends. -/
def ImEnd (w0 : World) (r : Option Msg) (e : Ending) (w' : World) : Prop :=
  Below w0.heap.size w0 w' ∧
  match r with
  | some M => ∃ v, e = .returned (.tuple #[v, .bool true]) ∧ MsgS all_ w' v M
  | none => e = .returned (.tuple #[.agg #[.int .i64 0, .slice none 0 0, .slice none 0 0, .slice none 0 0, .slice none 0 0, .slice none 0 0], .bool false])

set_option maxRecDepth 100000 in
set_option maxHeartbeats 1600000 in
theorem im_walk (w0 : World) (A : Option Addr) (c : Nat) (x : UInt8) (xs form : List UInt8) (L : List (UInt8 × Nat)) (hform : L.map (·.1) = form) (hone : oneB L = true) (hLl : L.length ≤ 100) (hz : ZzAll x xs L) (hl : xs.length ≤ 299999)
    (hr : RR (lit byteV) all_ w0 A (x :: xs)) :
    Calls Try.prog 10 #[.slice A (xs.length + 1) c] w0 (ImEnd w0 (imP x xs form)) := by
  obtain ⟨ad, rfl, _, hcell⟩ := RB.at hr (by simp)
  have c0 : w0.cell? ad = some (.int .u8 (x.toNat : Int)) := hcell 0 x rfl
  have HR := Lib.hid hr
  have HZ := Lib.hid hz
  have HO := Lib.hid hone
  have HFm := Lib.hid hform
  have hb0 := byte_le x
  have hmf : ∀ (fn : Fn) (first cap : Array Value) (w : World), (Instr.makeFunc fn first cap).run Try.prog w = .ok (.func fn first cap) w := fun _ _ _ _ => rfl
  have h1 : (300000 < (xs.length : Int) + 1) = False := eq_false (by omega)
  have h2 : (((xs.length : Int) + 1) == 0) = false := by simp; omega
  have HLX := Lib.hid hl
  clear hcell hz hone hform
  have HC := Lib.hid (im_calm w0 ad c x xs L HZ.out hl hr)
  have t1 := ta_bool
  have t2 := ta_arr
  have t4 := ta_u32
  have t6 := ta_str
  have t7 := ta_rest
  have t8 := ta_bytes
  have t9 := ta_strs
  clear hl hr HR
  go_enter Try.func10, Try.ntmps10
  go_wp2_with fail
  refine HC.out.mono ?_
  rintro e w5 ⟨rfl, hc, hd⟩
  have HI := Lib.hid hc
  have g1 := hc.b1.cell 0
  have m0 := hc.bm.cell 0
  have m1 := hc.bm.cell 1
  have m2 := hc.bm.cell 2
  have m3 := hc.bm.cell 3
  have m4 := hc.bm.cell 4
  have m5 := hc.bm.cell 5
  have mf := hc.bm.frozen
  have c05 : w5.cell? ad = some (.int .u8 (x.toNat : Int)) := (hc.old.cell (blk_lt_of_cell c0)).trans c0
  simp at g1 m0 m1 m2 m3 m4 m5
  clear hc
  rcases hd with ⟨vals, gp, Af, t, cs, e1, e2, e3, e4, e5, e6, e7, e8⟩ | ⟨e1, T, v, e2⟩
  · have HFL := Lib.hid (show ∀ fv ∈ vals, fvLen fv ≤ 300000 from fun fv hm => Nat.le_trans (rdAll_len _ _ e1 fv hm) (by have := HLX.out; omega))
    have HV := Lib.hid e1
    have HB5 := Lib.hid e5
    have H6 := Lib.hid e6
    have H8 := Lib.hid e8
    clear e1 e5 e6 e8
    have e4b := e4
    have hgpl : gp < w5.heap.size := HB5.out.lt
    go_wp2_with fail
    generalize hW : w5.setCell ⟨w0.heap.size + 1, 0, none⟩ (.int .i64 (x.toNat : Int)) = W6 at *
    have hkW : Keep (but (w0.heap.size + 1)) w5 W6 := by rw [← hW]; exact (Keep.refl _ w5).setCell (fun _ ho => ho rfl) _
    have hs6 : W6.heap.size = w5.heap.size := by rw [← hW]; simp [World.setCell]
    have HB6 := Lib.hid (show Blk W6 gp t cs from HB5.out.keep hkW e4)
    have H66 := Lib.hid (show RR (lit fun q : UInt8 × Nat => fieldV gp q.1 q.2) (old_ W6 (w0.heap.size + 1)) W6 Af L from RR.mono (RR.move H6.out (lit_steady _) (ok' := old_ w5 (w0.heap.size + 1)) (fun b hb ho => ⟨ho, hkW.block b hb ho.2⟩)) (lit_steady _) (fun b _ ho => ⟨by rw [hs6]; exact ho.1, ho.2⟩))
    have H86 := Lib.hid (show Got (old_ W6 (w0.heap.size + 1)) W6 cs L vals from fun i fv q h1 h2 => ((H8.out i fv q h1 h2).away (fun _ _ _ => rfl) (hkW.mono (fun b _ ho => ho.2))).mono (fun b _ ho => ⟨by rw [hs6]; exact ho.1, ho.2⟩))
    have HS6 := Lib.hid (show ImSt w0.heap.size W6 (w0.heap.size + 1) (.slice none 0 0) (.slice none 0 0) (.slice none 0 0) (.slice none 0 0) (.slice none 0 0) [] (Msg.none_ x.toNat) W6 from by
      refine ImSt.start ?_ (by omega)
      rw [← hW]
      exact HI.out.bm.set_ 0 _)
    have HO6 := Lib.hid (show Below w0.heap.size w0 W6 from by rw [← hW]; exact HI.out.old.setCell (show w0.heap.size ≤ w0.heap.size + 1 by omega) _)
    have hgp6 : gp < W6.heap.size := by rw [hs6]; exact hgpl
    clear hkW hs6 HB5 H6 H8 hW hgpl HI m0 m1 m2 m3 m4 m5 mf g1 c05 e2 e3
    clear HC c0
    go_loopg [41] L.length (fun gk v41 wr => ∃ (pos : Nat) (vI vS vN vT vB : Value) (cN : List Value) (M : Msg), v41 = .int .i64 (pos : Int) ∧ pos ≤ L.length ∧ Hid (ImSt w0.heap.size W6 (w0.heap.size + 1) vI vS vN vT vB cN M wr) ∧ Hid (pos + gk = L.length) ∧ Hid (M = (vals.take pos).foldl accV (Msg.none_ x.toNat)) ∧
      Hid (M.ints.length ≤ pos ∧ M.strings.length ≤ pos ∧ M.names.length ≤ pos ∧ M.truths.length ≤ pos) ∧ Hid ((M.bytes = [] ∧ vB = .slice none 0 0 ∧ oneB (L.drop pos) = true) ∨ noB (L.drop pos) = true))
    case atStart =>
      exact ⟨0, _, _, _, _, _, _, _, rfl, by omega, HS6, by simp [Hid], rfl, ⟨by simp [Msg.none_], by simp [Msg.none_], by simp [Msg.none_], by simp [Msg.none_]⟩, .inl ⟨rfl, rfl, HO.out⟩⟩
    case round =>
      obtain ⟨pos, vI, vS, vN, vT, vB, cN, M, rfl, hpos, HR, hgk, hM, hlen, hB⟩ := hrel
      by_cases hlt : pos < L.length
      · obtain ⟨⟨c0, off⟩, hq⟩ : ∃ q, L[pos]? = some q := ⟨_, List.getElem?_eq_getElem hlt⟩
        obtain ⟨fv, hfv⟩ : ∃ fv, vals[pos]? = some fv := ⟨_, List.getElem?_eq_getElem (by omega)⟩
        have hF := (H86.out pos fv (c0, off) hfv hq).away (fun _ _ _ => rfl) HR.out.keep
        have hblk : Blk wr gp t cs := HB6.out.keep HR.out.keep ⟨hgp6, e4⟩
        obtain ⟨ad2, v2, rfl, _, hcf0, rfl⟩ := (H66.out.keep (lit_steady _) HR.out.keep) pos _ hq
        have hM1 : accV M fv = (vals.take (pos + 1)).foldl accV (Msg.none_ x.toNat) := by
          rw [rest_take hfv, List.foldl_append, ← hM.out]; rfl
        have hdrop : L.drop pos = (c0, off) :: L.drop (pos + 1) := drop_cons_of hq
        have HD := Lib.hid hdrop
        have HM1 := Lib.hid hM1
        have HP := Lib.hid (show pos < 100 by omega)
        have HG := Lib.hid (show gk - 1 < gk by have := hgk.out; omega)
        have HP1 := Lib.hid (show pos + 1 + (gk - 1) = L.length by have := hgk.out; omega)
        have hc1 : wr.cell? ⟨gp, off, none⟩ = cs[off]? := hblk.cell off
        obtain ⟨m0, m1, m2, m3, m4, m5⟩ := HR.out.msg.cell
        have fz := HR.out.msg.obj.blk.frozen
        have hz1 : w0.heap.size + 1 < wr.heap.size := HR.out.msg.obj.blk.lt
        have hz2 : gp < wr.heap.size := hblk.lt
        have HBW := Lib.hid hblk
        have hfl : fvLen fv ≤ 300000 := HFL.out fv (List.mem_of_getElem? hfv)
        clear hfv hM1 hdrop hq hM hblk hgk
        cases fv with
        | n v =>
          obtain ⟨hc, hv⟩ := hF
          obtain rfl : c0 = 110 := hc
          have hcf : wr.cell? (ad2.add pos) = some (.iface 64 (.pointer (some ⟨gp, off, none⟩))) := hcf0
          have hcv : wr.cell? ⟨gp, off, none⟩ = some (.int .u32 (v : Int)) := hc1.trans hv
          clear hv hcf0 hc1 hfl
          go_wp2_with fail
          go_region_law ((refine step_push rfl _ _ _ rfl w0.heap.size 48 (.int .u32 0) 4 Try.underlying22 info_u32 rfl vI (M.ints.map u32V) rfl ((HR.out.drew.alloc _).msg.ownI) _ (u32V v) rfl (Blk.new _ _ _) rfl (by have := hlen.out; have := HP.out; rw [List.length_map]; omega) (by have := hlen.out; have := HP.out; rw [List.length_map]; omega) (HR.out.drew.alloc _).size ?_; intro A3 c3 w3 hown3 hg3 hat3; have hb3 := (HR.out.drew.alloc _).after ⟨_, List.mem_cons_self .., rfl⟩ hg3; have m1' := hb3.cell 1; have f1' := hb3.frozen 1; simp at m1'; have HB3 := Lib.hid hb3; clear hb3))
          all_goals
            go_wp2_with fail
            go_roundg (gk - 1)
            case measure => exact HG.out
            case rel =>
              have hl := hlen.out
              rw [List.length_map] at hown3 hat3
              refine ⟨pos + 1, _, _, _, _, _, _, _, by go_num, by omega, (HR.out.drew.alloc _).pushI hown3 hg3 hat3, HP1, HM1, ?_, BSt.next hB.out HD.out rfl⟩
              show _ ∧ _ ∧ _ ∧ _
              simp only [List.length_append, List.length_singleton]
              omega
        | s l =>
          obtain ⟨hc, hv⟩ := hF
          obtain rfl : c0 = 115 := hc
          have hcf : wr.cell? (ad2.add pos) = some (.iface 65 (.pointer (some ⟨gp, off, none⟩))) := hcf0
          have hcv : wr.cell? ⟨gp, off, none⟩ = some (.string ⟨l.toArray⟩) := hc1.trans hv
          clear hv hcf0 hc1 hfl
          go_wp2_with fail
          go_region_law ((refine step_push rfl _ _ _ rfl w0.heap.size 9 (.string .empty) 16 Try.underlying23 info_str rfl vS (M.strings.map strV) rfl ((HR.out.drew.alloc _).msg.ownS) _ (strV l) rfl (Blk.new _ _ _) rfl (by have := hlen.out; have := HP.out; rw [List.length_map]; omega) (by have := hlen.out; have := HP.out; rw [List.length_map]; omega) (HR.out.drew.alloc _).size ?_; intro A3 c3 w3 hown3 hg3 hat3; have hb3 := (HR.out.drew.alloc _).after ⟨_, List.mem_cons_of_mem _ (List.mem_cons_self ..), rfl⟩ hg3; have m1' := hb3.cell 2; have f1' := hb3.frozen 2; simp at m1'; have HB3 := Lib.hid hb3; clear hb3))
          all_goals
            go_wp2_with fail
            go_roundg (gk - 1)
            case measure => exact HG.out
            case rel =>
              have hl := hlen.out
              rw [List.length_map] at hown3 hat3
              refine ⟨pos + 1, _, _, _, _, _, _, _, by go_num, by omega, (HR.out.drew.alloc _).pushS hown3 hg3 hat3, HP1, HM1, ?_, BSt.next hB.out HD.out rfl⟩
              show _ ∧ _ ∧ _ ∧ _
              simp only [List.length_append, List.length_singleton]
              omega
        | l ns =>
          obtain ⟨hc, u, hv, A2, c2, hu, hc2, hm2, hr2⟩ := hF
          obtain rfl : c0 = 108 := hc
          subst hu
          have hcf : wr.cell? (ad2.add pos) = some (.iface 67 (.pointer (some ⟨gp, off, none⟩))) := hcf0
          have hcv : wr.cell? ⟨gp, off, none⟩ = some (.slice A2 ns.length c2) := hc1.trans hv
          have HR2 := Lib.hid hr2
          have HLN := Lib.hid (show cN.length ≤ pos by have := hlen.out; have := HR.out.msg.names.1; omega)
          have HNL := Lib.hid (show ns.length ≤ 300000 from hfl)
          clear hv hcf0 hc1 hr2 hfl
          go_wp2_with fail
          go_region_law (first
            | (refine step_push rfl _ _ _ rfl w0.heap.size 23 (.slice none 0 0) 24 Try.underlying24 info_strs rfl vN cN rfl ((HR3.out.alloc _).msg.ownN) _ _ rfl (Blk.new _ _ _) rfl (by have := HLN.out; have := HP.out; omega) (by have := HLN.out; have := HP.out; omega) (HR3.out.alloc _).size ?_; intro A4 c4 w4 hown4 hg4 hat4; have hb4 := (HR3.out.alloc _).after ⟨_, List.mem_cons_of_mem _ (List.mem_cons_of_mem _ (List.mem_cons_self ..)), rfl⟩ hg4; have m1' := hb4.cell 3; have f1' := hb4.frozen 3; simp at m1'; have HB4 := Lib.hid hb4; clear hb4)
            | (refine step_append_RR rfl _ _ _ rfl wr.heap.size 9 (.string .empty) 16 Try.underlying23 info_str rfl (.slice (some ⟨wr.heap.size, 0, none⟩) 0 0) [] rfl (World.ownsRow_lit wr.drew #[] 0 (Nat.le_refl _) (by decide) rfl) strV strV_one A2 c2 ns rfl (RR.keep HR2.out (lit_steady _) ((Keep.refl _ wr).drew.alloc _)) (by have := HNL.out; simp; omega) (by have := HNL.out; simp; omega) (by simp) ?_; intro A3 c3 w3 hown3 hg3 hat3; have hb3 : Below wr.drew.heap.size wr.drew w3 := (((Below.refl _ _).alloc (Nat.le_refl _) _).grown hg3 (by simp) (fun k hk => (by have h9 : wr.heap.size = k := (by simpa [Value.ownBlock] using hk); show wr.heap.size ≤ k; omega))); have HR3 := Lib.hid (HR.out.drew.below hb3); have HS3 := Lib.hid (HR.out.drew.newN (u := .slice A3 ns.length c3) hb3 (m := wr.heap.size) (Nat.le_refl _) (by simpa using hown3)); have m3' : w3.cell? ⟨w0.heap.size + 1, 3, none⟩ = some vN := (HR3.out.msg.cell).2.2.2.1; have hz3 : w0.heap.size + 1 < w3.heap.size := HR3.out.msg.obj.blk.lt; clear hown3 hg3 hat3 hb3))
          all_goals
            go_wp2_with fail
            go_roundg (gk - 1)
            case measure => exact HG.out
            case rel =>
              have hl := hlen.out
              refine ⟨pos + 1, _, _, _, _, _, _, _, by go_num, by omega, (HR3.out.alloc _).pushN hown4 hg4 hat4 (strs_steady.keep HS3.out ((Keep.refl _ _).alloc _)), HP1, HM1, ?_, BSt.next hB.out HD.out rfl⟩
              show _ ∧ _ ∧ _ ∧ _
              simp only [List.length_append, List.length_singleton]
              omega
        | t b =>
          obtain ⟨hc, hv⟩ := hF
          obtain rfl : c0 = 116 := hc
          have hcf : wr.cell? (ad2.add pos) = some (.iface 68 (.pointer (some ⟨gp, off, none⟩))) := hcf0
          have hcv : wr.cell? ⟨gp, off, none⟩ = some (.bool b) := hc1.trans hv
          clear hv hcf0 hc1 hfl
          go_wp2_with fail
          go_region_law ((refine step_push rfl _ _ _ rfl w0.heap.size 4 (.bool false) 1 Try.underlying25 info_bool rfl vT (M.truths.map Value.bool) rfl ((HR.out.drew.alloc _).msg.ownT) _ (.bool b) rfl (Blk.new _ _ _) rfl (by have := hlen.out; have := HP.out; rw [List.length_map]; omega) (by have := hlen.out; have := HP.out; rw [List.length_map]; omega) (HR.out.drew.alloc _).size ?_; intro A3 c3 w3 hown3 hg3 hat3; have hb3 := (HR.out.drew.alloc _).after ⟨_, List.mem_cons_of_mem _ (List.mem_cons_of_mem _ (List.mem_cons_of_mem _ (List.mem_cons_self ..))), rfl⟩ hg3; have m1' := hb3.cell 4; have f1' := hb3.frozen 4; simp at m1'; have HB3 := Lib.hid hb3; clear hb3))
          all_goals
            go_wp2_with fail
            go_roundg (gk - 1)
            case measure => exact HG.out
            case rel =>
              have hl := hlen.out
              rw [List.length_map] at hown3 hat3
              refine ⟨pos + 1, _, _, _, _, _, _, _, by go_num, by omega, (HR.out.drew.alloc _).pushT hown3 hg3 hat3, HP1, HM1, ?_, BSt.next hB.out HD.out rfl⟩
              show _ ∧ _ ∧ _ ∧ _
              simp only [List.length_append, List.length_singleton]
              omega
        | c l =>
          obtain ⟨hc, hl16, hcs⟩ := hF
          obtain rfl : c0 = 99 := hc
          have hcf : wr.cell? (ad2.add pos) = some (.iface 69 (.pointer (some ⟨gp, off, none⟩))) := hcf0
          have HR2 := Lib.hid (show RR (lit byteV) all_ wr (some ⟨gp, off, none⟩) l from fun i y hy => ⟨_, _, rfl, trivial, by
            rw [add_mk]
            exact (HBW.out.cell (off + i)).trans (hcs i y hy), rfl⟩)
          have hsl : ∀ W : World, (Instr.sliceAt 96 (.pointer (some ⟨gp, off, none⟩)) none none none).run Try.prog W = .ok (.slice (some ⟨gp, off, none⟩) l.length 16) W := fun W => by rw [hl16]; exact run_slice_arr gp off W
          have H16 := Lib.hid hl16
          obtain ⟨hb0, rfl, hno⟩ := BSt.hit hB.out HD.out rfl
          have HNO := Lib.hid (show noB (L.drop (pos + 1)) = true from hno)
          have HMB := Lib.hid (show { M with bytes := l } = (vals.take (pos + 1)).foldl accV (Msg.none_ x.toNat) by rw [← HM1.out]; simp [accV, hb0])
          clear hcs hcf0 hc1 hfl hl16 hb0 hno
          go_wp2_with fail
          go_region_law ((refine step_append_RR rfl _ _ _ rfl wr.heap.size 5 (.int .u8 0) 1 Try.underlying26 info_u8 rfl (.slice none 0 0) [] rfl (World.ownsRow_nil _ _ _ _) byteV byteV_one (some ⟨gp, off, none⟩) 16 l rfl (RR.keep HR2.out (lit_steady _) (Keep.refl _ wr).drew) (by have := H16.out; simp; omega) (by have := H16.out; simp; omega) (Nat.le_refl _) ?_; intro A3 c3 w3 hown3 hg3 hat3; have hb3 : Below wr.drew.heap.size wr.drew w3 := ((Below.refl _ _).grown hg3 (Nat.le_refl _) (fun k hk => (by simp [Value.ownBlock] at hk))); have HR3 := Lib.hid (HR.out.drew.below hb3); have HS3 := Lib.hid (HR.out.drew.newB (u := .slice A3 l.length c3) hb3 (m := wr.heap.size) (Nat.le_refl _) (by simpa using hown3)); have m3' := (HR3.out.msg.cell).2.2.2.2.2; have f3' := HR3.out.msg.obj.blk.frozen 5; have hz3 : w0.heap.size + 1 < w3.heap.size := HR3.out.msg.obj.blk.lt; clear hown3 hg3 hat3 hb3))
          all_goals
            go_wp2_with fail
            go_roundg (gk - 1)
            case measure => exact HG.out
            case rel =>
              have hl := hlen.out
              exact ⟨pos + 1, _, _, _, _, _, _, _, by go_num, by omega, HS3, HP1, HMB, ⟨by show M.ints.length ≤ _; omega, by show M.strings.length ≤ _; omega, by show M.names.length ≤ _; omega, by show M.truths.length ≤ _; omega⟩, .inr HNO.out⟩
        | r l =>
          obtain ⟨hc, u, hv, A2, c2, hu, hc2, hm2, hr2⟩ := hF
          obtain rfl : c0 = 114 := hc
          subst hu
          have hcf : wr.cell? (ad2.add pos) = some (.iface 71 (.agg #[.pointer (some ⟨gp, off, none⟩)])) := hcf0
          have hcv : wr.cell? ⟨gp, off, none⟩ = some (.slice A2 l.length c2) := hc1.trans hv
          have HR2 := Lib.hid hr2
          have HNL := Lib.hid (show l.length ≤ 300000 from hfl)
          obtain ⟨hb0, rfl, hno⟩ := BSt.hit hB.out HD.out rfl
          have HNO := Lib.hid (show noB (L.drop (pos + 1)) = true from hno)
          have HMB := Lib.hid (show { M with bytes := l } = (vals.take (pos + 1)).foldl accV (Msg.none_ x.toNat) by rw [← HM1.out]; simp [accV, hb0])
          clear hv hcf0 hc1 hfl hr2 hb0 hno
          go_wp2_with fail
          go_region_law ((refine step_append_RR rfl _ _ _ rfl wr.heap.size 5 (.int .u8 0) 1 Try.underlying26 info_u8 rfl (.slice none 0 0) [] rfl (World.ownsRow_nil _ _ _ _) byteV byteV_one A2 c2 l rfl (RR.keep HR2.out (lit_steady _) ((Keep.refl _ wr).alloc _).drew) (by have := HNL.out; simp; omega) (by have := HNL.out; simp; omega) (by simp) ?_; intro A3 c3 w3 hown3 hg3 hat3; have hb3 : Below wr.heap.size wr w3 := (((Below.refl _ wr).alloc (Nat.le_refl _) _).drew.grown hg3 (by simp) (fun k hk => (by simp [Value.ownBlock] at hk))); have HR3 := Lib.hid (HR.out.below hb3); have HS3 := Lib.hid (HR.out.newB (u := .slice A3 l.length c3) hb3 (m := wr.heap.size) (Nat.le_refl _) (by simpa using hown3)); have m3' := (HR3.out.msg.cell).2.2.2.2.2; have f3' := HR3.out.msg.obj.blk.frozen 5; have hz3 : w0.heap.size + 1 < w3.heap.size := HR3.out.msg.obj.blk.lt; clear hown3 hg3 hat3 hb3))
          all_goals
            go_wp2_with fail
            go_roundg (gk - 1)
            case measure => exact HG.out
            case rel =>
              have hl := hlen.out
              exact ⟨pos + 1, _, _, _, _, _, _, _, by go_num, by omega, HS3, HP1, HMB, ⟨by show M.ints.length ≤ _; omega, by show M.strings.length ≤ _; omega, by show M.names.length ≤ _; omega, by show M.truths.length ≤ _; omega⟩, .inr HNO.out⟩
      · have hpe : pos = L.length := by omega
        subst hpe
        have hMe : M = vals.foldl accV (Msg.none_ x.toNat) := by rw [hM.out, ← e7, List.take_length]
        have hnum : M.number = x.toNat := by rw [hMe]; exact accV_number _ _
        have hP : imP x xs form = some M := by
          unfold imP
          rw [← HFm.out, HV.out, hMe]
        have HPP := Lib.hid hP
        have HNum := Lib.hid hnum
        obtain ⟨AI, cI, hvI, _, _⟩ := own_form HR.out.msg.ownI
        obtain ⟨AS, cS, hvS, _, _⟩ := own_form HR.out.msg.ownS
        obtain ⟨AN, cN', hvN, _, _⟩ := own_form HR.out.msg.ownN
        obtain ⟨AT, cT, hvT, _, _⟩ := own_form HR.out.msg.ownT
        obtain ⟨AB, cB, hvB, _, _, _⟩ := HR.out.msg.bytes
        rw [List.length_map] at hvI hvS hvT
        rw [HR.out.msg.names.1] at hvN
        subst hvI hvS hvN hvT hvB
        obtain ⟨m0, m1, m2, m3, m4, m5⟩ := HR.out.msg.cell
        have fz := HR.out.msg.obj.blk.frozen
        rw [hnum] at m0
        clear hMe hnum hP hlt hpos hM hlen hB
        go_wp2_with fail
        refine bodyPost_ret (v := .tuple #[.agg #[.int .i64 (x.toNat : Int), .slice AI M.ints.length cI, .slice AS M.strings.length cS, .slice AN M.names.length cN', .slice AT M.truths.length cT, .slice AB M.bytes.length cB], .bool true]) (by simp [results, Try.results10, go_sem, m0, m1, m2, m3, m4, m5]) rfl ?_
        rw [HPP.out]
        have hlo : w0.heap.size ≤ w0.heap.size + 1 := by omega
        have hv := HR.out.msg.toVb
        rw [HNum.out] at hv
        have hs : ∀ (w : World) (j : Nat) (u : Value), Keep (but (w0.heap.size + 1)) wr w → Keep (but (w0.heap.size + 1)) wr (w.setCell ⟨w0.heap.size + 1, j, none⟩ u) := fun w j u h => h.setCell (fun _ ho => ho rfl) u
        have hk := HO6.out.trans ((Keep.of_below_old HR.out.keep HO6.out.size))
        exact ⟨(((((hk.setCell hlo _).setCell hlo _).setCell hlo _).setCell hlo _).setCell hlo _).setCell hlo _, _, rfl, MsgS_steady.mono (MsgS_steady.keep hv (hs _ _ _ (hs _ _ _ (hs _ _ _ (hs _ _ _ (hs _ _ _ (hs _ _ _ (Keep.refl _ _)))))))) (fun _ _ _ => trivial)⟩
  · have HV := Lib.hid e1
    have HM := Lib.hid (HI.out.old)
    clear e1
    go_wp2_with fail
    refine bodyPost_ret (v := .tuple #[.agg #[.int .i64 0, .slice none 0 0, .slice none 0 0, .slice none 0 0, .slice none 0 0, .slice none 0 0], .bool false]) (by simp [results, Try.results10, go_sem, m0, m1, m2, m3, m4, m5]) rfl ?_
    have hP : imP x xs form = none := by
      unfold imP
      rw [← HFm.out]
      cases hr : rdAll (L.map (·.1)) xs with
      | none => rfl
      | some q =>
        obtain ⟨vals, ys⟩ := q
        cases ys with
        | nil => exact absurd hr (HV.out vals)
        | cons y r => rfl
    rw [hP]
    have hlo : w0.heap.size ≤ w0.heap.size + 1 := by omega
    exact ⟨(((((HM.out.setCell hlo _).setCell hlo _).setCell hlo _).setCell hlo _).setCell hlo _).setCell hlo _, rfl⟩

end Go.Proofs.Ytnlkgaobbobakaa
