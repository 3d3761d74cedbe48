/- impl.AgentAnswers at the one request [11], and laws.agents: true. -/
import Derived.Test.YtmblpmmnglmjfaaGreatDoorAgServe
import Derived.Test.YtmblpmmnglmjfaaGreatDoorAgCalm
set_option linter.unusedVariables false
set_option linter.unusedSimpArgs false
namespace Go.Proofs.YtmblpmmnglmjfaaGreatDoor
open Go.RowKit

theorem new_ring (fn : Fn) (a b : Array Value) (w : World) : Calls Tryz.prog 23 #[.func fn a b] w fun e w' => e = .returned (.iface 90 (.pointer (some ⟨w.heap.size, 0, none⟩))) ∧ w' = w.alloc (.cells #[.func fn a b, .slice none 0 0, .bool false, .slice none 0 0] 93) := by
  go_enter Tryz.func23, Tryz.ntmps23
  go_wp2_with fail
  go_ret
  exact ⟨rfl, rfl⟩

/-- The nine bytes that an agent without keys answers. -/
def nine : List UInt8 := [0, 0, 0, 5, 12, 0, 0, 0, 0]
def Ans9 (B gw : Nat) (w' : World) : Prop := ∃ rv at_ lv A c, Blk w' gw 55 #[rv, at_, lv, .slice A 9 c] ∧ w'.ownsRow B 5 1 (.slice A 9 c) 9 (nine.map byteV)
set_option maxRecDepth 100000 in
set_option maxHeartbeats 1600000 in
theorem clos_11 (w : World) (gm gp gw cr cx T : Nat) (ra xa : Addr) (v : Value) (hp : Blk w gp 53 #[.pointer (some ⟨gw, 0, none⟩)]) (hw : Blk w gw 55 #[.slice (some ra) 1 cr, .int .i64 0, .slice none 0 0, .slice none 0 0])
    (hra : w.cell? ra = some (.slice (some xa) 1 cx)) (hrr : ra.block ≠ gw) (hxa : w.cell? xa = some (.int .u8 11)) (hxx : xa.block ≠ gw) (he : w.cell? ⟨2, 0, none⟩ = some (.iface T v)) (heg : 2 ≠ gw) :
    Calls Tryz.prog 21 #[.pointer (some ⟨gm, 0, none⟩), .pointer (some ⟨gp, 0, none⟩)] w fun e w' => e = .returned (.tuple #[]) ∧ Ans9 w.heap.size gw w' ∧ Keep (but gw) w w' := by
  have hmf : ∀ (fn : Fn) (first cap : Array Value) (w : World), (Instr.makeFunc fn first cap).run Tryz.prog w = .ok (.func fn first cap) w := fun _ _ _ _ => rfl
  have hp0 := hp.cell 0
  have hgp := hp.lt
  have HS := Lib.hid (fun (v0 : Value) (W : World) (gk : Nat) (hk : Blk W gk 93 #[v0, .slice none 0 0, .bool false, .slice none 0 0]) (hb : Below w.heap.size w W) => serve_11 W gk gw cr cx T ra xa v0 _ v hk ((hb.block _ hw.lt).trans hw) ((hb.cell (blk_lt_of_cell hra)).trans hra) hrr ((hb.cell (blk_lt_of_cell hxa)).trans hxa) hxx ((hb.cell (blk_lt_of_cell he)).trans he) heg)
  clear hp hw hra hxa he
  go_enter Tryz.func21, Tryz.ntmps21
  go_wp2_with fail
  go_region_law (first | (go_simp; go_at_call 23; refine (new_ring _ _ _ _).mono ?_; rintro e w1 ⟨rfl, rfl⟩) | (go_simp; go_at_call 22; refine (HS.out _ _ w.heap.size (Blk.new _ _ _).drew ((Below.refl _ _).alloc (Nat.le_refl _) _).drew).mono ?_; rintro e w1 ⟨⟨u, rfl⟩, h9, hk⟩; have H9 := Lib.hid h9; have HK := Lib.hid hk; clear h9 hk))
  all_goals
    go_wp2_with fail
    go_end0
    have hb0 : Below w.heap.size w (w.alloc (.cells #[.func (.func 24) #[] #[.pointer (some ⟨gm, 0, none⟩), .pointer (some ⟨gp, 0, none⟩)], .slice none 0 0, .bool false, .slice none 0 0] 93)).drew := ((Below.refl _ _).alloc (Nat.le_refl _) _).drew
    obtain ⟨rv, at_, lv, A, c, h1, h2⟩ := H9.out
    exact ⟨rfl, ⟨rv, at_, lv, A, c, h1, own_base h2 hb0.size⟩, (Keep.of_below hb0).trans HK.out⟩

theorem info_bytes : (Tryz.prog.info? 26).map (fun i => (i.zero, i.size, i.bytes)) = some (some (.slice none 0 0), 1, 24) := by kernel_rfl
theorem add_spot {ad : Addr} (h : ad.spot = none) (i : Nat) : ad.add i = ⟨ad.block, ad.off + i, none⟩ := by
  cases ad
  simp at h
  subst h
  unfold Addr.add
  split
  · rename_i h0; subst h0; rfl
  · rfl
theorem rr_self {w : World} {b : Nat} {e : TypeId} {cs : Array Value} {α : Type} {enc : α → Value} {xs : List α} (h : Blk w b e cs) (hx : ∀ (i : Nat) (x : α), xs[i]? = some x → cs[i]? = some (enc x)) : RR (lit enc) (fun k => k = b) w (some ⟨b, 0, none⟩) xs := fun i x hi => ⟨_, enc x, rfl, rfl, by rw [addr0, h.cell]; exact hx i x hi, rfl⟩
set_option maxRecDepth 100000 in
set_option maxHeartbeats 1600000 in
theorem answers_11 (w : World) (cr cm cx T : Nat) (ra ma xa : Addr) (v : Value) (hra : w.cell? ra = some (.slice (some xa) 1 cx)) (hxa : w.cell? xa = some (.int .u8 11)) (hma : w.cell? ma = some (.int .u64 5)) (he : w.cell? ⟨2, 0, none⟩ = some (.iface T v)) :
    Calls Tryz.prog 12 #[.slice (some ra) 1 cr, .slice (some ma) 1 cm] w fun e w' => (∃ A c, e = .returned (.tuple #[.slice (some A) 1 c, .bool true]) ∧ ∃ B k, w'.cell? A = some (.slice B 5 k) ∧ RR (lit byteV) all_ w' B [12, 0, 0, 0, 0]) ∧ Below w.heap.size w w' := by
  have hrl := blk_lt_of_cell hra
  have hxl := blk_lt_of_cell hxa
  have hml := blk_lt_of_cell hma
  have hel := blk_lt_of_cell he
  have hmf : ∀ (fn : Fn) (first cap : Array Value) (w : World), (Instr.makeFunc fn first cap).run Tryz.prog w = .ok (.func fn first cap) w := fun _ _ _ _ => rfl
  go_enter Tryz.func12, Tryz.ntmps12
  go_wp2_with fail
  refine wp_loop_rounds 2 ?_
  rw [rounds_succ]
  go_wp2_with fail
  rw [rounds_succ]
  go_upto_region 14 with fail
  obtain ⟨w1, hw1⟩ : ∃ W, W = ((w.alloc (.cells #[.slice (some ma) 1 cm] 42)).alloc (.cells #[.slice (some ra) 1 cr, .int .i64 0, .slice none 0 0, .slice none 0 0] 55)).alloc (.cells #[.pointer (some ⟨w.heap.size + 1, 0, none⟩)] 53) := ⟨_, rfl⟩
  have hb1 : Below w.heap.size w w1 := by rw [hw1]; exact (((Below.refl _ _).alloc (Nat.le_refl _) _).alloc (by simp) _).alloc (by simp; omega) _
  have hp1 : Blk w1 (w.heap.size + 2) 53 #[.pointer (some ⟨w.heap.size + 1, 0, none⟩)] := by
    rw [hw1]
    have := Blk.new ((w.alloc (.cells #[.slice (some ma) 1 cm] 42)).alloc (.cells #[.slice (some ra) 1 cr, .int .i64 0, .slice none 0 0, .slice none 0 0] 55)) 53 #[.pointer (some ⟨w.heap.size + 1, 0, none⟩)]
    simpa using this
  have hg1 : Blk w1 (w.heap.size + 1) 55 #[.slice (some ra) 1 cr, .int .i64 0, .slice none 0 0, .slice none 0 0] := by
    rw [hw1]
    have := (Blk.new (w.alloc (.cells #[.slice (some ma) 1 cm] 42)) 55 #[.slice (some ra) 1 cr, .int .i64 0, .slice none 0 0, .slice none 0 0]).alloc (.cells #[.pointer (some ⟨w.heap.size + 1, 0, none⟩)] 53)
    simpa using this
  have hz1 : w1.heap.size = w.heap.size + 3 := by rw [hw1]; simp
  rw [← hw1]
  have hbn : Below w1.heap.size w1 (w1.alloc (.cells #[.bool false] 4)) := (Below.refl _ _).alloc (Nat.le_refl _) _
  have hcl := clos_11 (w1.alloc (.cells #[.bool false] 4)) w.heap.size (w.heap.size + 2) (w.heap.size + 1) cr cx T ra xa v (hp1.alloc _) (hg1.alloc _) ((hbn.cell (Nat.lt_of_lt_of_le hrl hb1.size)).trans ((hb1.cell hrl).trans hra)) (by omega) ((hbn.cell (Nat.lt_of_lt_of_le hxl hb1.size)).trans ((hb1.cell hxl).trans hxa)) (by omega) ((hbn.cell (Nat.lt_of_lt_of_le hel hb1.size)).trans ((hb1.cell hel).trans he)) (by simp at hel ⊢; omega)
  have HC := Lib.hid (calm_walk 21 #[.pointer (some ⟨w.heap.size, 0, none⟩), .pointer (some ⟨w.heap.size + 2, 0, none⟩)] w1 (fun W => Ans9 (w1.heap.size + 1) (w.heap.size + 1) W ∧ Keep (but (w.heap.size + 1)) w1 W) (fun W => by kernel_rfl)
    (hcl.mono fun e w' ⟨h0, h1, h2⟩ => by
      have hnb := (Blk.new w1 4 #[.bool false]).keep h2 (show w1.heap.size ≠ _ by omega)
      refine ⟨h0, hnb.cell 0, hnb.frozen 0, by simpa using h1, (Keep.of_below hbn).trans h2⟩))
  have HB1 := Lib.hid hb1
  have HZ1 := Lib.hid hz1
  have HP1 := Lib.hid hp1
  clear hw1 hb1 hp1 hg1 hz1 hbn hcl hra hxa hma he
  go_upto_region 17 with (go_at_call 13; refine HC.out.mono ?_; rintro e w2 ⟨rfl, w2', ⟨h9, hk2⟩, rfl⟩; have H9 := Lib.hid h9; have HK2 := Lib.hid hk2; clear h9 hk2)
  obtain ⟨rv, at_, lv, A, c, hw2, hown2⟩ := H9.out
  have hp2 := HP1.out.keep HK2.out (show w.heap.size + 2 ≠ _ by omega)
  obtain ⟨w3, hw3⟩ : ∃ W, W = w2'.setCell ⟨w1.heap.size, 0, none⟩ (.bool true) := ⟨_, rfl⟩
  have hz1 := HZ1.out
  have hw3' : Blk w3 (w.heap.size + 1) 55 #[rv, at_, lv, .slice A 9 c] := by rw [hw3]; exact hw2.far (by show _ ≠ w1.heap.size; omega) _
  have hp3 : Blk w3 (w.heap.size + 2) 53 #[.pointer (some ⟨w.heap.size + 1, 0, none⟩)] := by rw [hw3]; exact hp2.far (by show _ ≠ w1.heap.size; omega) _
  have hown3 : w3.ownsRow (w1.heap.size + 1) 5 1 (.slice A 9 c) 9 (nine.map byteV) := by rw [hw3]; exact own_move_ hown2 (fun k hk => Below.heap_setCell _ _ _ _ (by have := own_block_lt_ hown2 hk; show _ ≠ w1.heap.size; omega))
  have hb3 : Below w.heap.size w w3 := by
    rw [hw3]
    exact Keep.below ((((Keep.of_below (ok := all_) HB1.out).then HK2.out (fun b hb _ => show b ≠ _ by omega))).setCell (fun h => by have : w1.heap.size < w.heap.size := h; omega) _)
  have hc9 : 9 ≤ c ∧ c ≤ 9223372036854775807 := by
    obtain ⟨A', c', hv, h1, h2⟩ := own_form hown3
    injection hv with e1 e2 e3
    omega
  obtain ⟨ad, rfl, hado, hcc⟩ := (own_RR (l := nine) hown3 (ok := fun b => w1.heap.size + 1 ≤ b) (fun b hb => own_block_lt_ hown3 hb)).addr (by decide)
  have hat : ∀ (i : Nat) (x : UInt8), nine[i]? = some x → w3.cell? ⟨ad.block, ad.off + i, none⟩ = some (byteV x) := fun i x hi => by
    obtain ⟨u, h1, rfl⟩ := hcc i x hi
    have hsp : ad.spot = none := by
      obtain ⟨u0, h0, _⟩ := hcc 0 0 rfl
      have := spot_none h0
      unfold Addr.add at this
      rw [if_pos rfl] at this
      exact this
    rw [add_spot hsp] at h1
    exact h1
  have k0 : w3.cell? ad = some (.int .u8 0) := by obtain ⟨u, h1, rfl⟩ := hcc 0 0 rfl; exact h1
  have k1 : w3.cell? ⟨ad.block, ad.off + 1, none⟩ = some (.int .u8 0) := hat 1 0 rfl
  have k2 : w3.cell? ⟨ad.block, ad.off + 2, none⟩ = some (.int .u8 0) := hat 2 0 rfl
  have k3 : w3.cell? ⟨ad.block, ad.off + 3, none⟩ = some (.int .u8 5) := hat 3 5 rfl
  have kp := hp3.cell 0
  have kw := hw3'.cell 3
  rw [← hw3]
  have HB3 := Lib.hid hb3
  have HR3 := Lib.hid (own_RR (l := nine) hown3 (ok := all_) (fun _ _ => trivial))
  clear hw2 hown2 hp2 hw3 hw3' hp3 hown3 hb3 hcc hat hz1 HC
  go_upto_region 18 with fail
  refine wp_loop_rounds 2 ?_
  rw [rounds_succ]
  have hbo : bits .or .i64 0 0 = 0 := by decide
  have hbo5 : bits .or .i64 0 5 = 5 := by decide
  go_upto_region 19 with fail
  go_quiet (fail)
  obtain ⟨w4, hw4⟩ : ∃ W, W = w3.drewN nq := ⟨_, rfl⟩
  have hb4 : Below w.heap.size w w4 := by rw [hw4]; exact HB3.out.trans ⟨rfl, rfl, rfl, Nat.le_refl _, fun _ _ => rfl⟩
  have hr4 : RR (lit byteV) all_ w4 (some ad) nine := by rw [hw4]; exact HR3.out.keep (lit_steady _) ((Keep.refl _ _).drewN _)
  rw [← hw4]
  obtain ⟨i0, hi0, _, hsz, _⟩ := info_parts info_u8
  obtain ⟨A5, ys, hcut, hys, hyl, hcr⟩ := cut_mid (P := Tryz.prog) 26 5 .i64 .i64 Tryz.underlying26 hi0 hsz (some ad) c nine 4 9 (by decide) (by decide) hc9.1
  obtain rfl : ys = [12, 0, 0, 0, 0] := hys.out
  have hcut : ∀ W : World, (Instr.slice 26 (.slice (some ad) 9 c) (some (.int .i64 4)) (some (.int .i64 9)) none).run Tryz.prog W = .ok (.slice A5 5 (c - 4)) W := hcut
  have HOW := Lib.hid (own_new all_ A5 (c - 4) [12, 0, 0, 0, 0] w4 (by decide) (hcr _ _ _ hr4))
  have HB4 := Lib.hid hb4
  clear hw4 hb4 hr4 hys hcr k0 k1 k2 k3 kp kw HR3
  go_upto_region 22 with fail
  have ht := cut_from (P := Tryz.prog) 26 5 .i64 Tryz.underlying26 hi0 hsz (some ad) c nine 9 (by decide) hc9.1
  obtain ⟨A6, zs, ht, hzs, _, _⟩ := ht
  obtain rfl : zs = [] := hzs.out
  have ht : ∀ W : World, (Instr.slice 26 (.slice (some ad) 9 c) (some (.int .i64 9)) none none).run Tryz.prog W = .ok (.slice A6 0 (c - 9)) W := ht
  clear hzs
  go_upto_region 23 with (first
    | (go_at_call 17; refine HOW.out.mono ?_; rintro e w5 ⟨vo, rfl, hown5, hb5⟩; obtain ⟨Ao, co, rfl, hco1, hco2⟩ := own_form hown5; have HO5 := Lib.hid hown5; have HB5 := Lib.hid hb5; clear hown5 hb5)
    | (at_builtin; refine Hid.out ?_))
  refine Lib.hid ?_
  refine wpList_push rfl _ _ _ rfl w5.heap.size 26 (.slice none 0 0) 24 Tryz.underlying38 info_bytes rfl (.slice none 0 0) [] rfl ⟨rfl, .inl ⟨rfl, rfl⟩⟩ w5.heap.size (.slice Ao 5 co) rfl (Blk.new _ _ _) rfl (by decide) (by decide) (by simp) ?_
  intro A7 c7 w7 hown7 hg7 _
  obtain ⟨g, cap, hv, _, _⟩ := hown7.form (by simp)
  obtain rfl : A7 = some ⟨g, 0, none⟩ := by injection hv
  have hc7 := hown7.cells (g := g) rfl 0 (.slice Ao 5 co) rfl
  have hk7 : Keep all_ w5 w7 := ((Keep.refl all_ w5).alloc _).grown hg7 (fun g hg => by simp [Value.ownBlock] at hg)
  have hr7 : RR (lit byteV) all_ w7 Ao [12, 0, 0, 0, 0] := (own_RR HO5.out (fun _ _ => trivial)).keep (lit_steady _) hk7
  have HR7 := Lib.hid hr7
  have HC7 := Lib.hid hc7
  have HB7 := Lib.hid ((HB4.out.trans (HB5.out.mono HB4.out.size)).trans (hk7.below.mono (by have := HB4.out.size; have := HB5.out.size; omega)))
  clear hown7 hg7 hv hc7 hk7 hr7
  go_wp2_with fail
  rw [rounds_succ]
  go_wp2_with fail
  go_ret2
  refine ⟨⟨_, _, rfl, Ao, co, ?_, HR7.out⟩, HB7.out⟩
  simpa [Addr.add] using HC7.out

set_option maxRecDepth 100000 in
set_option maxHeartbeats 800000 in
theorem agents_walk (w : World) (T : TypeId) (v : Value) (he : w.cell? ⟨2, 0, none⟩ = some (.iface T v)) : Calls Tryz.prog 6 #[] w fun e w' => e = .returned (.bool true) ∧ Below w.heap.size w w' := by
  obtain ⟨w1, hw1⟩ : ∃ W, W = ((w.alloc (.cells #[.int .u8 11] 5)).alloc (.cells #[.slice (some ⟨w.heap.size, 0, none⟩) 1 1] 26)).alloc (.cells #[.int .u64 5] 41) := ⟨_, rfl⟩
  have hb1 : Below w.heap.size w w1 := by rw [hw1]; exact (((Below.refl _ _).alloc (Nat.le_refl _) _).alloc (by simp) _).alloc (by simp; omega) _
  have h0 : Blk w1 w.heap.size 5 #[.int .u8 11] := by rw [hw1]; exact ((Blk.new _ _ _).alloc _).alloc _
  have h1 : Blk w1 (w.heap.size + 1) 26 #[.slice (some ⟨w.heap.size, 0, none⟩) 1 1] := by
    rw [hw1]
    have := (Blk.new (w.alloc (.cells #[.int .u8 11] 5)) 26 #[.slice (some ⟨w.heap.size, 0, none⟩) 1 1]).alloc (.cells #[.int .u64 5] 41)
    simpa using this
  have h2 : Blk w1 (w.heap.size + 2) 41 #[.int .u64 5] := by
    rw [hw1]
    have := Blk.new ((w.alloc (.cells #[.int .u8 11] 5)).alloc (.cells #[.slice (some ⟨w.heap.size, 0, none⟩) 1 1] 26)) 41 #[.int .u64 5]
    simpa using this
  have HA := Lib.hid (show Calls Tryz.prog 12 #[.slice (some ⟨w.heap.size + 1, 0, none⟩) 1 1, .slice (some ⟨w.heap.size + 1 + 1, 0, none⟩) 1 1] w1 _ from answers_11 w1 1 1 1 T ⟨w.heap.size + 1, 0, none⟩ ⟨w.heap.size + 2, 0, none⟩ ⟨w.heap.size, 0, none⟩ v (h1.cell 0) (h0.cell 0) (h2.cell 0) ((hb1.cell (blk_lt_of_cell he)).trans he))
  rw [hw1] at HA
  have HB1 := Lib.hid hb1
  have HW1 := Lib.hid hw1
  clear hb1 h0 h1 h2 hw1 he
  go_enter Tryz.func6, Tryz.ntmps6
  go_upto_region 2 with (go_at_call 12; refine HA.out.mono ?_; rintro e w2 ⟨⟨A, c, rfl, B, k, hc, hr⟩, hb2⟩; have cv : (convert 26 9 (.slice B 5 k)).run Tryz.prog w2 = .ok (.string ⟨#[12, 0, 0, 0, 0]⟩) w2 := run_to_string (P := Tryz.prog) Tryz.underlying26 Tryz.underlying5 Tryz.underlying9 k hr; have HB2 := Lib.hid hb2; clear hb2)
  go_wp2_with fail
  go_outline
  go_ret
  refine ⟨rfl, ?_⟩
  have h := HB2.out
  rw [← HW1.out] at h
  exact HB1.out.trans (h.mono HB1.out.size)

end Go.Proofs.YtmblpmmnglmjfaaGreatDoor
