/- base64's encoder: NewEncoder, Write, Close. -/
import Derived.Test.YtoeepfmmceilaaaGreatDoorLnBuf
import Derived.Deep.RegionHeld3
set_option linter.unusedVariables false
set_option linter.unusedSimpArgs false
namespace Go.Proofs.YtoeepfmmceilaaaGreatDoor
open Go.RowKit

/-- An encoder in a block: its buffer holds bf, nothing went wrong. -/
structure EncB (w : World) (ce ge b : Nat) (bf : List UInt8) (cs : Array Value) : Prop where
  blk : Blk w ce 166 cs
  size : cs.size = 1031
  err : cs[0]? = some .nilIface
  enc : cs[1]? = some (.pointer (some ⟨ge, 0, none⟩))
  out : cs[2]? = some (.iface 112 (.pointer (some ⟨b, 0, none⟩)))
  nb : cs[6]? = some (.int .i64 (bf.length : Int))
  buf : ∀ (i : Nat) (x : UInt8), bf[i]? = some x → cs[3 + i]? = some (byteV x)
  bl : bf.length ≤ 3

set_option maxRecDepth 100000 in
set_option maxHeartbeats 400000 in
theorem newEncoder_walk (w : World) (ge b : Nat) :
    Calls Tryz.prog 78 #[.pointer (some ⟨ge, 0, none⟩), .iface 112 (.pointer (some ⟨b, 0, none⟩))] w fun e w' => ∃ cs, e = .returned (.iface 162 (.pointer (some ⟨w.heap.size, 0, none⟩))) ∧ EncB w' w.heap.size ge b [] cs ∧ Below w.heap.size w w' := by
  go_enter Tryz.func78, Tryz.ntmps78
  go_wp2_with fail
  go_ret
  have hz : ∀ i, i ≠ 1 → i ≠ 2 → (((Tryz.zeroCells166).setIfInBounds 1 (.pointer (some ⟨ge, 0, none⟩))).setIfInBounds 2 (.iface 112 (.pointer (some ⟨b, 0, none⟩))))[i]? = (Tryz.zeroCells166)[i]? := fun i h1 h2 => by
    rw [Array.getElem?_setIfInBounds_ne (by omega), Array.getElem?_setIfInBounds_ne (by omega)]
  have hsz : (Tryz.zeroCells166).size = 1031 := by kernel_rfl
  refine ⟨_, rfl, ⟨Blk.new _ _ _, by rw [Array.size_setIfInBounds, Array.size_setIfInBounds, hsz], ?_, ?_, ?_, ?_, fun i x hi => by simp at hi, by decide⟩, (Below.refl _ _).alloc (Nat.le_refl _) _⟩
  · rw [hz 0 (by decide) (by decide)]
    kernel_rfl
  · rw [Array.getElem?_setIfInBounds_ne (by decide), Array.getElem?_setIfInBounds, if_pos rfl, if_pos (by rw [hsz]; decide)]
  · rw [Array.getElem?_setIfInBounds, if_pos rfl, if_pos (by rw [Array.size_setIfInBounds, hsz]; decide)]
  · rw [hz 6 (by decide) (by decide)]
    kernel_rfl

theorem b64P_cut : ∀ (k : Nat) (xs : List UInt8), 3 * k ≤ xs.length → b64P (xs.take (3 * k)) ++ b64P (xs.drop (3 * k)) = b64P xs
  | 0, xs, _ => by simp [b64P]
  | k + 1, a :: b :: c :: r, h => by
    have h1 := b64P_cut k r (by simp at h; omega)
    rw [show 3 * (k + 1) = 3 * k + 1 + 1 + 1 by omega]
    simp only [List.take_succ_cons, List.drop_succ_cons, b64P, List.cons_append, h1]
  | k + 1, [], h => by simp at h
  | k + 1, [_], h => by simp at h; omega
  | k + 1, [_, _], h => by simp at h; omega
theorem EncB.set {w w' : World} {ce ge b : Nat} {bf l : List UInt8} {cs cs' : Array Value} (h : EncB w ce ge b bf cs) (hb : Blk w' ce 166 cs') (hp : PutIn cs cs' 7 l) : EncB w' ce ge b bf cs' := by
  have hl := h.bl
  refine ⟨hb, hp.size.trans h.size, (hp.lo 0 (by decide)).trans h.err, (hp.lo 1 (by decide)).trans h.enc, (hp.lo 2 (by decide)).trans h.out, (hp.lo 6 (by decide)).trans h.nb, fun i x hi => ?_, hl⟩
  have hi3 : i < bf.length := (List.getElem?_eq_some_iff.1 hi).1
  exact (hp.lo (3 + i) (by omega)).trans (h.buf i x hi)
theorem Else.keep {l : List UInt8} {w w' : World} {k : Nat} (h : Else l w k) (hk : w'.heap[k]? = w.heap[k]?) : Else l w' k := by
  obtain ⟨cur, t, fr, h1, h2⟩ := h
  exact ⟨cur, t, fr, hk.trans h1, h2⟩

theorem below_but {B g : Nat} {w w' : World} (h : Keep (but g) w w') (hB : B ≤ w.heap.size) (hg : B ≤ g) : Below B w w' :=
  ⟨h.os, h.tape, h.output, h.size, fun k hk => h.block k (Nat.lt_of_lt_of_le hk hB) (show k ≠ g by omega)⟩
theorem BufAt.away {B b ce : Nat} {l : List UInt8} {w w' : World} {cs : Array Value} (h : BufAt B b l w) (hce : Blk w ce 166 cs) (hcb : ce ≠ b) (hk : Keep (but ce) w w') : BufAt B b l w' := by
  have hlt := Lib.IsBuffer.lt h
  obtain ⟨hB, v, lr, hbk, hown, hne⟩ := h
  refine ⟨hB, v, lr, (hk.block b hlt (show b ≠ ce from fun e => hcb e.symm)).trans hbk, ⟨hown.1, ?_⟩, hne⟩
  rcases hown.2 with hn | ⟨g, cap, cur, hv, hbg, hg, rest⟩
  · exact .inl hn
  · refine .inr ⟨g, cap, cur, hv, hbg, (hk.block g (Lib.lt_of_heap hg) (show g ≠ ce from fun e => ?_)).trans hg, rest⟩
    subst e
    have h1 := hce.symm.trans hg
    injection h1 with h1
    injection h1 with _ h2 _
    exact absurd h2 (by decide)
theorem BufAt.heap {B b : Nat} {l : List UInt8} {w W : World} (h : BufAt B b l w) (e : W.heap = w.heap) : BufAt B b l W := by
  obtain ⟨hB, v, lr, hbk, hown, hne⟩ := h
  refine ⟨hB, v, lr, by rw [e]; exact hbk, ⟨hown.1, ?_⟩, hne⟩
  rcases hown.2 with hn | ⟨g, cap, cur, hv, hbg, hg, rest⟩
  · exact .inl hn
  · exact .inr ⟨g, cap, cur, hv, hbg, by rw [e]; exact hg, rest⟩
theorem Blk.heap {w W : World} {g : Nat} {t : TypeId} {cs : Array Value} (h : Blk w g t cs) (e : W.heap = w.heap) : Blk W g t cs := by
  unfold Blk
  rw [e]
  exact h
theorem Blk.others {w W : World} {b g : Nat} {t : TypeId} {cs : Array Value} (h : Blk w g t cs) (ht : t ≠ 5) (hg : g ≠ b) (hk : Lib.OthersKept 5 (some b) w W) : Blk W g t cs :=
  hk g _ h (fun e => hg (Option.some.inj e)) (fun c fz e => by injection e with _ e2 _; exact ht e2)
theorem keep_drew {ok : Nat → Prop} {w w' : World} (h : Keep ok w.drew w') : Keep ok w w' := ⟨h.os, h.tape, h.output, h.size, h.block⟩
set_option maxHeartbeats 400000 in
theorem encodedLen_walk (w : World) (g n : Nat) (hn : n ≤ 100000) (hb : Blk w g 177 encC) : Calls Tryz.prog 137 #[.pointer (some ⟨g, 0, none⟩), .int .i64 (n : Int)] w fun e w' => e = .returned (.int .i64 (((n + 2) / 3 * 4 : Nat) : Int)) ∧ w' = w := by
  have hp : w.cell? ⟨g, 320, none⟩ = some (.int .i32 61) := by rw [hb.cell]; exact encC_pad
  clear hb
  go_enter Tryz.func137, Tryz.ntmps137
  go_wp2_with fail
  go_ret
  exact ⟨by simp, rfl⟩

set_option maxRecDepth 100000 in
set_option maxHeartbeats 1600000 in
theorem encClose_walk (B ce ge b : Nat) (l r : List UInt8) (cs : Array Value) (w : World) (hE : EncB w ce ge b r cs) (hG : Blk w ge 177 encC) (hb : BufAt B b l w) (hB : B ≤ w.heap.size) (hBc : B ≤ ce) (hcb : ce ≠ b) (hgc : ge ≠ ce) (hgb : ge ≠ b) (hl0 : 0 < l.length) (hl : l.length ≤ 10000) (hr0 : 0 < r.length) :
    Calls Tryz.prog 195 #[.pointer (some ⟨ce, 0, none⟩)] w fun e w' => e = .returned .nilIface ∧ BufAt B b (l ++ b64P r) w' ∧ Below B w w' := by
  have hr3 := hE.bl
  have hbl : (b64P r).length = 4 := by rw [b64P_len]; omega
  have HEn := Lib.hid (fun (W : World) (hW : W.heap = w.heap) => encode_walk ge ce 7 1024 1024 166 cs (some ⟨ce, 3, none⟩) 3 r W (by omega) hr3 (by unfold Blk; rw [hW]; exact hG) (by unfold Blk; rw [hW]; exact hE.blk) hgc (by omega) (by omega) (by rw [hE.size]; decide) (by omega) (fun W' cs' h1 h2 h3 h4 => (RR_blk (ok := all_) 3 h1 trivial (fun i x hi => (h3 (3 + i) (by have := (List.getElem?_eq_some_iff.1 hi).1; omega)).trans (hE.buf i x hi)))))
  have HE := Lib.hid hE
  have HB := Lib.hid hb
  have HGE := Lib.hid hG
  have k0 : w.cell? ⟨ce, 0, none⟩ = some .nilIface := (hE.blk.cell 0).trans hE.err
  have k1 : w.cell? ⟨ce, 1, none⟩ = some (.pointer (some ⟨ge, 0, none⟩)) := (hE.blk.cell 1).trans hE.enc
  have k6 : w.cell? ⟨ce, 6, none⟩ = some (.int .i64 (r.length : Int)) := (hE.blk.cell 6).trans hE.nb
  have hme : ∀ W : World, (method 456 112 (.pointer (some ⟨b, 0, none⟩)) "Write").run Tryz.prog W = .ok (190, .pointer (some ⟨b, 0, none⟩)) W := fun W => by kernel_rfl
  have hrn : 0 < r.length := hr0
  have hr3' : ((r.length : Int) ≤ 3) = True := eq_true (by omega)
  have HN := Lib.hid (And.intro hB (And.intro hBc (And.intro hcb (And.intro hgc (And.intro hgb (And.intro hl0 (And.intro hl hr0)))))))
  have HBL := Lib.hid hbl
  clear hE hG hb hB hBc hcb hgc hgb hl0 hl hr0 hbl
  go_enter Tryz.func195, Tryz.ntmps195
  go_wp2_with fail
  go_region_held3 (fun w' => w'.cell? ⟨ce, 1, none⟩ = some (.pointer (some ⟨ge, 0, none⟩)) ∧ w'.cell? ⟨ce, 6, none⟩ = some (.int .i64 (r.length : Int))) (first | go_keep | exact ⟨j1, j6⟩) (first | (go_at_call 138; refine (HEn.out _ (by rfl)).mono ?_; rintro e w2 ⟨rfl, cs2, hb2, hp2, hk2⟩; have hE2 := HE.out.set hb2 hp2; have j1 : w2.cell? ⟨ce, 1, none⟩ = some (.pointer (some ⟨ge, 0, none⟩)) := (hE2.blk.cell 1).trans hE2.enc; have j6 : w2.cell? ⟨ce, 6, none⟩ = some (.int .i64 (r.length : Int)) := (hE2.blk.cell 6).trans hE2.nb; have j0 : w2.cell? ⟨ce, 0, none⟩ = some .nilIface := (hE2.blk.cell 0).trans hE2.err; have j2 : w2.cell? ⟨ce, 2, none⟩ = some (.iface 112 (.pointer (some ⟨b, 0, none⟩))) := (hE2.blk.cell 2).trans hE2.out; have HE2 := Lib.hid hE2; have HP2 := Lib.hid hp2; have HK2 := Lib.hid hk2; clear hb2 hp2 hk2 hE2))
  have HBw2 := Lib.hid (HB.out.away HE.out.blk HN.out.2.2.1 (keep_drew HK2.out))
  have hsz2 : B ≤ w2.heap.size := Nat.le_trans HN.out.1 (keep_drew HK2.out).size
  have hg2 : Blk w2 ge 177 encC := HGE.out.keep (keep_drew HK2.out) (show ge ≠ ce from HN.out.2.2.2.1)
  have HWr := Lib.hid (fun (W : World) (hW : W.heap = w2.heap) => bufWrite B b l (b64P r) ⟨ce, 7, none⟩ 1024 W (HBw2.out.heap hW) (by rw [hW]; exact hsz2) HN.out.2.2.2.2.2.1 (by rw [HBL.out]; decide) (by rw [HBL.out]; have := HN.out.2.2.2.2.2.2.1; omega) HN.out.2.2.1 (fun j x hj => by rw [Lib.addr_add, (HE2.out.blk.heap hW).cell]; exact HP2.out.put j x hj))
  rw [HBL.out] at HWr
  have HEL := Lib.hid (fun (W : World) (hW : W.heap = w2.heap) => encodedLen_walk W ge r.length (by omega) (hg2.heap hW))
  rw [show (r.length + 2) / 3 * 4 = 4 by omega] at HEL
  have HS2 := Lib.hid hsz2
  clear k0 k1 k6 hsz2 hg2
  go_wp2_with fail
  go_region_held3 (fun w' => w'.cell? ⟨ce, 2, none⟩ = some (.iface 112 (.pointer (some ⟨b, 0, none⟩))) ∧ w'.cell? ⟨ce, 1, none⟩ = some (.pointer (some ⟨ge, 0, none⟩)) ∧ w'.cell? ⟨ce, 6, none⟩ = some (.int .i64 (r.length : Int))) (first | go_keep | exact ⟨i2, i1, i6⟩ | exact ⟨q2 _, q1 _, q6 _⟩) (first
    | (go_at_call 137; refine (HEL.out _ (by rfl)).mono ?_; rintro e w9 ⟨rfl, rfl⟩)
    | (go_at_call 190; refine (HWr.out _ (by rfl)).mono ?_; rintro e w3 ⟨rfl, r1, r2, r3, r4⟩; have hE3 : Blk w3 ce 166 cs2 := Blk.others (w := w2) HE2.out.blk (by decide) HN.out.2.2.1 r3; have i2 : w3.cell? ⟨ce, 2, none⟩ = some (.iface 112 (.pointer (some ⟨b, 0, none⟩))) := (hE3.cell 2).trans HE2.out.out; have i1 : w3.cell? ⟨ce, 1, none⟩ = some (.pointer (some ⟨ge, 0, none⟩)) := (hE3.cell 1).trans HE2.out.enc; have i6 : w3.cell? ⟨ce, 6, none⟩ = some (.int .i64 (r.length : Int)) := (hE3.cell 6).trans HE2.out.nb; have i0 : w3.cell? ⟨ce, 0, none⟩ = some .nilIface := (hE3.cell 0).trans HE2.out.err; have f0 := hE3.frozen 0; have f6 := hE3.frozen 6; have q2 : ∀ v, (w3.setCell ⟨ce, 0, none⟩ v).cell? ⟨ce, 2, none⟩ = some (.iface 112 (.pointer (some ⟨b, 0, none⟩))) := (fun v => ((hE3.set_ 0 v).cell 2).trans ((Array.getElem?_setIfInBounds_ne (by decide)).trans HE2.out.out)); have q1 : ∀ v, (w3.setCell ⟨ce, 0, none⟩ v).cell? ⟨ce, 1, none⟩ = some (.pointer (some ⟨ge, 0, none⟩)) := (fun v => ((hE3.set_ 0 v).cell 1).trans ((Array.getElem?_setIfInBounds_ne (by decide)).trans HE2.out.enc)); have q6 : ∀ v, (w3.setCell ⟨ce, 0, none⟩ v).cell? ⟨ce, 6, none⟩ = some (.int .i64 (r.length : Int)) := (fun v => ((hE3.set_ 0 v).cell 6).trans ((Array.getElem?_setIfInBounds_ne (by decide)).trans HE2.out.nb)); have HE3 := Lib.hid hE3; have R := Lib.hid (And.intro r1 (And.intro r2 r3)); clear r1 r2 r3 r4 hE3))
  have hs0 : 0 < cs2.size := by rw [HE2.out.size]; decide
  have z0 : ∀ v, ((w3.setCell ⟨ce, 0, none⟩ .nilIface).setCell ⟨ce, 6, none⟩ v).cell? ⟨ce, 0, none⟩ = some .nilIface := fun v => (((HE3.out.set_ 0 .nilIface).set_ 6 v).cell 0).trans ((Array.getElem?_setIfInBounds_ne (by decide)).trans (by rw [Array.getElem?_setIfInBounds, if_pos rfl, if_pos hs0]))
  clear i0 i1 i2 i6 j0 j1 j2 j6 hs0
  go_wp2_with fail
  go_ret
  have K3 : Keep (but ce) w3 ((w3.setCell ⟨ce, 0, none⟩ .nilIface).setCell ⟨ce, 6, none⟩ (.int .i64 0)) := ((Keep.refl _ _).setCell (fun _ hn => hn rfl) _).setCell (fun _ hn => hn rfl) _
  have B2 : Below B w w2 := below_but (keep_drew HK2.out) HN.out.1 HN.out.2.1
  have B3 : Below B w2 w3 := ⟨R.out.2.1.os, R.out.2.1.tape, R.out.2.1.output, R.out.2.1.size, R.out.2.1.block⟩
  exact ⟨rfl, R.out.1.away HE3.out HN.out.2.2.1 K3, (B2.trans B3).trans (below_but K3 (Nat.le_trans HS2.out B3.size) HN.out.2.1)⟩

end Go.Proofs.YtoeepfmmceilaaaGreatDoor
/- base64's encoder: Write of some bytes. -/
set_option linter.unusedVariables false
set_option linter.unusedSimpArgs false
namespace Go.Proofs.YtoeepfmmceilaaaGreatDoor
open Go.RowKit

theorem out_slice (ce q4 : Nat) (h : q4 ≤ 1024) (W : World) : (Instr.sliceAt 164 (.pointer (some ⟨ce, 7, none⟩)) (some (.int .i64 0)) (some (.int .i64 (q4 : Int))) none).run Tryz.prog W = .ok (.slice (some ⟨ce, 7, none⟩) q4 1024) W := by
  have hu : Tryz.prog.underlying 164 = some (.array (Tryz.prog.arrayLen 164) (Tryz.prog.elem 164)) := by kernel_rfl
  have hal : Tryz.prog.arrayLen 164 = 1024 := by kernel_rfl
  have hel : Tryz.prog.elem 164 = 5 := by kernel_rfl
  have h1 : (0 : Int) ≤ (q4 : Int) := by omega
  have h2 : (q4 : Int) ≤ Tryz.prog.arrayLen 164 := by rw [hal]; omega
  rw [run_sliceAt_array_lh W _ _ hu .i64 .i64 0 (q4 : Int) (by decide) h1 h2, hal, hel, Tryz.sizeOf5]
  simp [Result.andThen, slicedAt, Addr.add]
/-- copy of few bytes into an encoder's buffer. -/
theorem copy_buf (w : World) (ce r0 c2 : Nat) (A2 : Option Addr) (ys : List UInt8) (cs : Array Value) (ok : Nat → Prop) (hcs : cs.size = 1031) (hb : Blk w ce 166 cs) (hl : ys.length = r0) (h3 : r0 < 3) (hr : RR (lit byteV) ok w A2 ys) :
    ∃ w2 cs2, (Builtin.copy_ #[28, 28] 3 #[.slice (some ⟨ce, 3, none⟩) 3 3, .slice A2 r0 c2]).run Tryz.prog w = .ok (.int .i64 (r0 : Int)) w2 ∧ Blk w2 ce 166 cs2 ∧ cs2.size = 1031 ∧ (∀ i, i < 3 → cs2[i]? = cs[i]?) ∧ (∀ i x, ys[i]? = some x → cs2[3 + i]? = some (byteV x)) ∧ cs2[6]? = cs[6]? ∧ Keep (but ce) w w2 := by
  have hi5 : (Tryz.prog.info? 5).map (·.size) = some 1 := by kernel_rfl
  by_cases h0 : r0 = 0
  · subst h0
    have hy : ys = [] := List.eq_nil_of_length_eq_zero hl
    subst hy
    exact ⟨w, cs, run_copy_none w 28 28 3 5 (some ⟨ce, 3, none⟩) A2 3 3 0 c2 Tryz.underlying28 hi5 (by simp), hb, hcs, fun _ _ => rfl, fun i x h => by simp at h, rfl, Keep.refl _ _⟩
  · obtain ⟨ad, rfl, _, hcc, _⟩ := RB.spots hr (by omega)
    obtain ⟨w2, cs2, h1, h2, h3', h4, h5⟩ := copy_put w ce 3 3 3 ad r0 c2 cs 166 ys hb (by rw [hl]; exact (Nat.min_eq_left (by omega)).symm) (fun j x hj => hcc j x hj) (by omega)
    rw [hl] at h1
    exact ⟨w2, cs2, h1, h2, h3'.size.trans hcs, h3'.lo, h3'.put, h4 6 (by omega), h5⟩
theorem tm3 (k m : Nat) (h : k % 3 = m) : (k : Int).tmod 3 = (m : Int) := by rw [Int.tmod_eq_emod_of_nonneg (by omega)]; omega
theorem td3 (k m : Nat) (h : k / 3 = m) : (k : Int).tdiv 3 = (m : Int) := by rw [Int.tdiv_eq_ediv_of_nonneg (by omega)]; omega
set_option maxRecDepth 100000 in
set_option maxHeartbeats 3200000 in
theorem encWrite_walk (B ce ge b : Nat) (l xs : List UInt8) (cs : Array Value) (A : Option Addr) (c : Nat) (w : World) (hE : EncB w ce ge b [] cs) (hG : Blk w ge 177 encC) (hb : BufAt B b l w) (hB : B ≤ w.heap.size) (hBc : B ≤ ce) (hcb : ce ≠ b) (hgc : ge ≠ ce) (hgb : ge ≠ b) (hl0 : 0 < l.length) (hl : l.length ≤ 10000)
    (h3 : 3 ≤ xs.length) (h7 : xs.length < 768) (hc : xs.length ≤ c) (hm : c ≤ 9223372036854775807) (hr : RR (lit byteV) (fun k => k ≠ ce ∧ k ≠ b ∧ Else l w k) w A xs) :
    Calls Tryz.prog 196 #[.pointer (some ⟨ce, 0, none⟩), .slice A xs.length c] w fun e w' => (∃ r, e = .returned r) ∧ (∃ cs', EncB w' ce ge b (xs.drop (3 * (xs.length / 3))) cs') ∧ Blk w' ge 177 encC ∧ BufAt B b (l ++ b64P (xs.take (3 * (xs.length / 3)))) w' ∧ Below B w w' := by
  obtain ⟨n, hn⟩ : ∃ n, n = xs.length := ⟨_, rfl⟩
  obtain ⟨q, hq⟩ : ∃ q, q = xs.length / 3 := ⟨_, rfl⟩
  obtain ⟨m, hm3⟩ : ∃ m, m = 3 * q := ⟨_, rfl⟩
  rw [← hq, ← hm3]
  have k0 : w.cell? ⟨ce, 0, none⟩ = some .nilIface := (hE.blk.cell 0).trans hE.err
  have k1 : w.cell? ⟨ce, 1, none⟩ = some (.pointer (some ⟨ge, 0, none⟩)) := (hE.blk.cell 1).trans hE.enc
  have k6 : w.cell? ⟨ce, 6, none⟩ = some (.int .i64 0) := (hE.blk.cell 6).trans hE.nb
  have hme : ∀ W : World, (method 456 112 (.pointer (some ⟨b, 0, none⟩)) "Write").run Tryz.prog W = .ok (190, .pointer (some ⟨b, 0, none⟩)) W := fun W => by kernel_rfl
  obtain ⟨q4, hq4⟩ : ∃ k, k = q * 4 := ⟨_, rfl⟩
  have hw1 := Lib.hid (show IntKind.i64.wrap (q : Int) = (q : Int) by rw [IntKind.wrap_i64]; omega)
  have hw2 := Lib.hid (show IntKind.i64.wrap ((q : Int) * 4) = (q4 : Int) by rw [IntKind.wrap_i64]; omega)
  have hsa := out_slice ce q4 (by omega)
  obtain ⟨i0, hi0, _, hsz, _⟩ := info_parts info_u8
  obtain ⟨A1, ys1, hc1, hys1, hyl1, hyr1⟩ := cut_to (P := Tryz.prog) 28 5 .i64 Tryz.underlying28 hi0 hsz A c xs m (by omega) hc
  rw [← hn] at hc1 ⊢
  obtain ⟨r0, hr0⟩ : ∃ r, r = n % 3 := ⟨_, rfl⟩
  have y1 := tm3 n r0 hr0.symm
  have y2 : (n : Int) - (r0 : Int) = (m : Int) := by omega
  have y3 := td3 m q (by omega)
  have n3 : 3 ≤ n := by omega
  have n7 : n < 768 := by omega
  have hml : m ≤ n := by omega
  have hq1 := Lib.hid (show 1 ≤ q by omega)
  have n3' : ((3 : Int) ≤ (n : Int)) = True := eq_true (by omega)
  have n7' : ((n : Int) < 768) = True := eq_true (by omega)
  have r3' : ((3 : Int) ≤ (r0 : Int)) = False := eq_false (by omega)
  have hy1l : ys1.length = m := by rw [hys1.out, List.length_take]; omega
  rw [hy1l] at hc1 hyl1
  obtain ⟨A2, ys2, hc2, hys2, hyl2, hyr2⟩ := cut_from (P := Tryz.prog) 28 5 .i64 Tryz.underlying28 hi0 hsz A c xs m (by omega) hc
  have hy2l : ys2.length = r0 := by rw [hys2.out, List.length_drop]; omega
  rw [hy2l, ← hn] at hc2
  rw [hy2l] at hyl2
  have hb4 : (b64P ys1).length = q4 := by rw [b64P_len, hy1l]; omega
  have hy1w : RR (lit byteV) (fun k => k ≠ ce ∧ k ≠ b ∧ Else l w k) w A1 ys1 := hyr1 _ _ _ hr
  have hy2w : RR (lit byteV) (fun k => k ≠ ce ∧ k ≠ b ∧ Else l w k) w A2 ys2 := hyr2 _ _ _ hr
  have HEn := Lib.hid (fun (W : World) (hW : W.heap = w.heap) (ho : Keep (but ce) w W) => encode_walk ge ce 7 1024 1024 166 cs A1 c ys1 W (by omega) (by omega) (hG.heap hW) (hE.blk.heap hW) hgc (by omega) (by omega) (by rw [hE.size]; decide) (by omega) (fun W' cs' h1 h2 h3 h4 => ((hy1w.keep (lit_steady _) ((ho.trans h4).mono fun k _ ho => ho.1)).mono (lit_steady _) (fun _ _ _ => trivial))))
  rw [hy1l] at HEn
  have HE := Lib.hid hE
  have HB := Lib.hid hb
  have HGE := Lib.hid hG
  have HN := Lib.hid (And.intro hB (And.intro hBc (And.intro hcb (And.intro hgc (And.intro hgb (And.intro hl0 hl))))))
  have HY2 := Lib.hid hy2w
  have HL4 := Lib.hid hb4
  have HL2 := Lib.hid hy2l
  have HX1 := Lib.hid (show ys1 = xs.take m from hys1.out)
  have HX2 := Lib.hid (show ys2 = xs.drop m from hys2.out)
  have HQ := Lib.hid (And.intro hn (And.intro hq (And.intro hm3 (And.intro hr0 hq4))))
  have HC2 := Lib.hid hyl2
  clear hn hq hm3 hr0 hq4 hE hb hG hB hBc hcb hgc hgb hl0 hl h3 h7 hm hr hy1w hy2w hyr1 hyr2 hb4 hy1l hy2l hys1 hys2 hyl1 hyl2
  go_enter Tryz.func196, Tryz.ntmps196
  go_wp2_with fail
  refine wp_loop_rounds 2 ?_
  rw [rounds_succ]
  go_wp2_with fail
  go_region_held3 (fun w' => w'.cell? ⟨ce, 1, none⟩ = some (.pointer (some ⟨ge, 0, none⟩))) (first | go_keep | exact j1) (first | (go_at_call 138; refine (HEn.out _ (by rfl) ((Keep.refl _ _).drewN 1)).mono ?_; rintro e w2 ⟨rfl, cs2, hb2, hp2, hk2⟩; have hE2 := HE.out.set hb2 hp2; have j1 : w2.cell? ⟨ce, 1, none⟩ = some (.pointer (some ⟨ge, 0, none⟩)) := (hE2.blk.cell 1).trans hE2.enc; have j2 : w2.cell? ⟨ce, 2, none⟩ = some (.iface 112 (.pointer (some ⟨b, 0, none⟩))) := (hE2.blk.cell 2).trans hE2.out; have j0 : w2.cell? ⟨ce, 0, none⟩ = some .nilIface := (hE2.blk.cell 0).trans hE2.err; have HE2 := Lib.hid hE2; have HP2 := Lib.hid hp2; have HK2 := Lib.hid (keep_drew hk2); clear hb2 hp2 hk2 hE2))
  have HBw2 := Lib.hid (HB.out.away HE.out.blk HN.out.2.2.1 HK2.out)
  have hsz2 : B ≤ w2.heap.size := Nat.le_trans HN.out.1 HK2.out.size
  have HWr := Lib.hid (fun (W : World) (hW : W.heap = w2.heap) => bufWrite B b l (b64P ys1) ⟨ce, 7, none⟩ 1024 W (HBw2.out.heap hW) (by rw [hW]; exact hsz2) HN.out.2.2.2.2.2.1 (by have := hq1.out; have := HQ.out.2.2.2.2; rw [HL4.out]; omega) (by have := HQ.out.2.2.2.2; have := HQ.out.2.2.1; rw [HL4.out]; have := HN.out.2.2.2.2.2.2; omega) HN.out.2.2.1 (fun j x hj => by rw [Lib.addr_add, (HE2.out.blk.heap hW).cell]; exact HP2.out.put j x hj))
  rw [HL4.out] at HWr
  have HS2 := Lib.hid hsz2
  clear k0 k1 k6 hsz2
  go_wp2_with fail
  have w1 := hw1.out
  have w2' := hw2.out
  go_region_held3 (fun w' => w'.cell? ⟨ce, 2, none⟩ = some (.iface 112 (.pointer (some ⟨b, 0, none⟩)))) (first | go_keep | exact i2 | exact q2 _) (first
    | (go_at_call 190; refine (HWr.out _ (by rfl)).mono ?_; rintro e w3 ⟨rfl, r1, r2, r3, r4⟩; have hE3 : Blk w3 ce 166 cs2 := Blk.others (w := w2) HE2.out.blk (by decide) HN.out.2.2.1 r3; have i2 : w3.cell? ⟨ce, 2, none⟩ = some (.iface 112 (.pointer (some ⟨b, 0, none⟩))) := (hE3.cell 2).trans HE2.out.out; have i0 : w3.cell? ⟨ce, 0, none⟩ = some .nilIface := (hE3.cell 0).trans HE2.out.err; have f0 := hE3.frozen 0; have q2 : ∀ v, (w3.setCell ⟨ce, 0, none⟩ v).cell? ⟨ce, 2, none⟩ = some (.iface 112 (.pointer (some ⟨b, 0, none⟩))) := (fun v => ((hE3.set_ 0 v).cell 2).trans ((Array.getElem?_setIfInBounds_ne (by decide)).trans HE2.out.out)); have HE3 := Lib.hid hE3; have R := Lib.hid (And.intro r1 (And.intro r2 (And.intro r3 r4))); clear r1 r2 r3 r4 hE3))
  have hs0 : 0 < cs2.size := by rw [HE2.out.size]; decide
  have hE5 := HE3.out.set_ 0 .nilIface
  have K35 : Keep (but ce) w3 (w3.setCell ⟨ce, 0, none⟩ .nilIface) := (Keep.refl _ _).setCell (fun _ hn => hn rfl) _
  obtain ⟨cs5, hcs5⟩ : ∃ k, k = cs2.setIfInBounds 0 .nilIface := ⟨_, rfl⟩
  obtain ⟨W5, hW5⟩ : ∃ W, W = w3.setCell ⟨ce, 0, none⟩ .nilIface := ⟨_, rfl⟩
  rw [← hW5, ← hcs5] at hE5
  rw [← hW5] at K35 ⊢
  have hsz5 : cs5.size = 1031 := by rw [hcs5, Array.size_setIfInBounds]; exact HE2.out.size
  have e0 : cs5[0]? = some .nilIface := by rw [hcs5, Array.getElem?_setIfInBounds, if_pos rfl, if_pos hs0]
  have e1 : cs5[1]? = some (.pointer (some ⟨ge, 0, none⟩)) := by rw [hcs5, Array.getElem?_setIfInBounds_ne (by decide)]; exact HE2.out.enc
  have e2 : cs5[2]? = some (.iface 112 (.pointer (some ⟨b, 0, none⟩))) := by rw [hcs5, Array.getElem?_setIfInBounds_ne (by decide)]; exact HE2.out.out
  have e6 : cs5[6]? = some (.int .i64 0) := by rw [hcs5, Array.getElem?_setIfInBounds_ne (by decide)]; exact HE2.out.nb
  have B3 : Below B w2 w3 := ⟨R.out.2.1.os, R.out.2.1.tape, R.out.2.1.output, R.out.2.1.size, R.out.2.1.block⟩
  have K15 : Keep (fun k => k ≠ ce ∧ k ≠ b ∧ Else l w k) w W5 := by
    have h1 := HK2.out
    have h2 := K35
    refine ⟨(h2.os.trans B3.os).trans h1.os, (h2.tape.trans B3.tape).trans h1.tape, (h2.output.trans B3.output).trans h1.output, Nat.le_trans h1.size (Nat.le_trans B3.size h2.size), fun k hk ho => ?_⟩
    have q1 : w2.heap[k]? = w.heap[k]? := h1.block k hk ho.1
    have q2 : w3.heap[k]? = w2.heap[k]? := R.out.2.2.2 k ho.2.1 (Else.keep (w := w) ho.2.2 q1)
    exact (h2.block k (Nat.lt_of_lt_of_le hk (Nat.le_trans h1.size B3.size)) ho.1).trans (q2.trans q1)
  have hcq := HQ.out
  obtain ⟨w6, cs6, hcp, hb6, hsz6, hlo6, hin6, h66, hk6⟩ := copy_buf W5 ce r0 (c - m) A2 ys2 cs5 _ hsz5 hE5 HL2.out (by rw [hcq.2.2.2.1]; omega) (HY2.out.keep (lit_steady _) K15)
  have j0' : W5.cell? ⟨ce, 0, none⟩ = some .nilIface := (hE5.cell 0).trans e0
  have z6 : w6.cell? ⟨ce, 6, none⟩ = some (.int .i64 0) := (hb6.cell 6).trans (h66.trans e6)
  have zf := hb6.frozen 6
  have HE6 := Lib.hid hb6
  have HZ6 := Lib.hid (And.intro hsz6 (And.intro hlo6 (And.intro hin6 hk6)))
  have HEE := Lib.hid (And.intro e0 (And.intro e1 e2))
  have HK35 := Lib.hid K35
  have HB3 := Lib.hid B3
  clear w1 w2' j0 j1 j2 i0 i2 hcq K15 K35 B3 e0 e1 e2 e6 hE5 hsz5 hs0 hW5 hcs5 hb6 hsz6 hlo6 hin6 h66 hk6
  go_wp2_with fail
  rw [rounds_succ]
  go_wp2_with fail
  go_ret2
  have hz := HZ6.out
  have hN := HN.out
  have hee := HEE.out
  have hr3 : r0 < 3 := by have := HQ.out.2.2.2.1; omega
  have K6 : Keep (but ce) W5 (w6.setCell ⟨ce, 6, none⟩ (.int .i64 (r0 : Int))) := hz.2.2.2.trans ((Keep.refl _ _).setCell (fun _ hn => hn rfl) _)
  have K36 : Keep (but ce) w3 (w6.setCell ⟨ce, 6, none⟩ (.int .i64 (r0 : Int))) := HK35.out.trans K6
  have hG3 : Blk w3 ge 177 encC := Blk.others (w := w2) (HGE.out.keep HK2.out (show ge ≠ ce from hN.2.2.2.1)) (by decide) hN.2.2.2.2.1 R.out.2.2.1
  have hx2 := HX2.out
  have hl2 := HL2.out
  rw [hx2] at hl2
  refine ⟨⟨_, rfl⟩, ⟨_, ⟨HE6.out.set_ 6 _, by rw [Array.size_setIfInBounds]; exact hz.1, ?_, ?_, ?_, ?_, fun i x hi => ?_, by omega⟩⟩, hG3.keep K36 (show ge ≠ ce from hN.2.2.2.1), ?_, ?_⟩
  · rw [Array.getElem?_setIfInBounds_ne (by decide), hz.2.1 0 (by decide)]
    exact hee.1
  · rw [Array.getElem?_setIfInBounds_ne (by decide), hz.2.1 1 (by decide)]
    exact hee.2.1
  · rw [Array.getElem?_setIfInBounds_ne (by decide), hz.2.1 2 (by decide)]
    exact hee.2.2
  · rw [Array.getElem?_setIfInBounds, if_pos rfl, if_pos (by rw [hz.1]; decide), hl2]
  · have hi3 : i < (xs.drop m).length := (List.getElem?_eq_some_iff.1 hi).1
    rw [Array.getElem?_setIfInBounds_ne (by omega)]
    exact hz.2.2.1 i x (by rw [hx2]; exact hi)
  · have h1 := R.out.1
    rw [HX1.out] at h1
    exact h1.away HE3.out hN.2.2.1 K36
  · exact (below_but HK2.out hN.1 hN.2.1).trans (HB3.out.trans (below_but K36 (Nat.le_trans HS2.out HB3.out.size) hN.2.1))

end Go.Proofs.YtoeepfmmceilaaaGreatDoor
