/- impl.WriteMessage: the walk. -/
import Derived.Test.YtnlkgaobbobakaaWMar2
import Derived.Test.YtnlkgaobbobakaaImSt
import Derived.Laws.CopyRow
import Derived.Shelf.Spec.SlicesInsert
set_option linter.unusedVariables false
set_option linter.unusedSimpArgs false
namespace Go.Proofs.Ytnlkgaobbobakaa
open Go.RowKit

/-- The message's block while its fields are written. -/
structure WrSt (W : World) (gp : Nat) (t : TypeId) (size : Nat) (L : List (UInt8 × Nat)) (vals : List Fv) (pos : Nat) (cs : Array Value) (w : World) : Prop where
  blk : Blk w gp t cs
  size : cs.size = size
  got : Got (but gp) w cs L (vals.take pos)
  keep : Keep (but gp) W w
theorem WrSt.step {W w w' : World} {gp : Nat} {t : TypeId} {size : Nat} {L : List (UInt8 × Nat)} {vals : List Fv} {pos : Nat} {cs cs' : Array Value} {q : UInt8 × Nat} {fv : Fv} (h : WrSt W gp t size L vals pos cs w) (hL : Laid 0 L size) (hq : L[pos]? = some q) (hfv : vals[pos]? = some fv)
    (hb : Blk w' gp t cs') (hsz : cs'.size = cs.size) (hK : Keep (but gp) w w') (hc : ∀ j, j < q.2 → cs'[j]? = cs[j]?) (hn : FvAt (but gp) w' cs' q fv) : WrSt W gp t size L vals (pos + 1) cs' w' := by
  have hlt := (List.getElem?_eq_some_iff.1 hfv).1
  refine ⟨hb, hsz.trans h.size, ?_, h.keep.trans hK⟩
  rw [rest_take hfv]
  exact Got.next h.got hL (by rw [List.length_take]; omega) hq hc hK hn
theorem takeAll_cons {c : UInt8} {r : List UInt8} {L Le : Msg} {vs : List Fv} (h : takeAll (c :: r) L = some (vs, Le)) : ∃ fv L' vr, takeV c L = some (fv, L') ∧ vs = fv :: vr ∧ takeAll r L' = some (vr, Le) := by
  simp only [takeAll] at h
  split at h
  · cases h
  · rename_i q hq
    obtain ⟨p, hp, h⟩ := Option.map_eq_some_iff.1 h
    injection h with h1 h2
    obtain ⟨fv, L'⟩ := q
    obtain ⟨vr, Lz⟩ := p
    exact ⟨fv, L', vr, hq, h1.symm, by rw [hp, ← h2]⟩
theorem Blk.under {w w' : World} {g : Nat} {t : TypeId} {cs : Array Value} (h : Blk w g t cs) (hb : Below w.heap.size w w') : Blk w' g t cs := (hb.block g h.lt).trans h
theorem RRs.both {ok : Nat → Prop} {w : World} {A : Option Addr} {xs : List (List (List UInt8))} (h : RR Strs ok w A xs) : RR Strs (fun b => ok b ∧ b < w.heap.size) w A xs := fun i x hx => by
  obtain ⟨ad, v, h1, h2, h3, A2, c2, h4, h5, h6, h7⟩ := h i x hx
  have := blk_lt_of_cell h3
  rw [add_block] at this
  exact ⟨ad, v, h1, ⟨h2, this⟩, h3, A2, c2, h4, h5, h6, h7.both⟩
theorem drop_head {α : Type} {l r : List α} {k : Nat} {x : α} (h : l.drop k = x :: r) : l[k]? = some x ∧ r = l.drop (k + 1) := by
  have h1 : (l.drop k)[0]? = some x := by rw [h]; rfl
  rw [List.getElem?_drop, Nat.add_zero] at h1
  refine ⟨h1, ?_⟩
  have h2 := drop_cons_of h1
  rw [h] at h2
  injection h2

theorem Blk.setRow {w : World} {g : Nat} {t : TypeId} {cs : Array Value} (h : Blk w g t cs) (cs' : Array Value) : Blk (w.setRow g cs') g t cs' := by
  unfold Blk at h ⊢
  simp [World.setRow, Array.getElem?_modify, h]
theorem Keep.setRow (w : World) (g : Nat) (cs' : Array Value) : Keep (but g) w (w.setRow g cs') :=
  ⟨rfl, rfl, rfl, by simp [World.setRow], fun k _ hk => by
    have hk : k ≠ g := hk
    simp only [World.setRow, Array.getElem?_modify]
    rw [if_neg (fun e => hk e.symm)]⟩
theorem splice_get {cs : Array Value} {off : Nat} {l : List Value} (ho : off + l.length ≤ cs.size) :
    (cs.toList.take off ++ l ++ cs.toList.drop (off + l.length)).toArray.size = cs.size ∧ (∀ j, j < off → (cs.toList.take off ++ l ++ cs.toList.drop (off + l.length)).toArray[j]? = cs[j]?) ∧ ∀ j v, l[j]? = some v → (cs.toList.take off ++ l ++ cs.toList.drop (off + l.length)).toArray[off + j]? = some v := by
  have hlen : cs.toList.length = cs.size := Array.length_toList
  have ht : (cs.toList.take off).length = off := by rw [List.length_take]; omega
  refine ⟨by simp; omega, fun j hj => ?_, fun j v hv => ?_⟩
  · rw [List.getElem?_toArray, List.append_assoc, List.getElem?_append_left (by omega), List.getElem?_take, if_pos hj, Array.getElem?_toList]
  · have hlt := (List.getElem?_eq_some_iff.1 hv).1
    rw [List.getElem?_toArray, List.append_assoc, List.getElem?_append_right (by omega), ht, List.getElem?_append_left (by omega)]
    rw [show off + j - off = j by omega]
    exact hv
/-- How impl.WriteMessage ends. -/
def WrEnd (w0 : World) (l : List UInt8) (e : Ending) (w' : World) : Prop :=
  ∃ (A : Option Addr) (c : Nat), e = .returned (.tuple #[.slice A l.length c, .bool true]) ∧ RR (lit byteV) all_ w' A l ∧ Below w0.heap.size w0 w'

set_option maxRecDepth 100000 in
set_option maxHeartbeats 3200000 in
theorem write_walk (w0 : World) (v0 : Value) (M : Msg) (hM : MsgS all_ w0 v0 M) (hfit : Fit M) (x : UInt8) (form : List UInt8) (vals : List Fv) (Le : Msg) (hnum : M.number = (x.toNat : Int)) (hf : shapeP x.toNat = some form) (hx : x ≠ 52)
    (htake : takeAll form M = some (vals, Le)) (hleft : leftOf Le = 0) :
    Calls Try.prog 12 #[v0] w0 (WrEnd w0 (x :: mshAll vals)) := by
  obtain ⟨vI, vS, vN, vT, vB, rfl, ⟨AI, cI, rfl, i1, i2, hI⟩, ⟨AS, cS, rfl, s1, s2, hS⟩, ⟨AN, cN, rfl, n1, n2, hN⟩, ⟨AT, cT, rfl, t1, t2, hT⟩, ⟨AB, cB, rfl, b1, b2, hB⟩⟩ := hM
  obtain ⟨L, T, F, t, cs0, NM⟩ := new_any x form hf hx
  have hx255 := byte_le x
  have HI := Lib.hid hI.both
  have HS := Lib.hid hS.both
  have HN := Lib.hid (RRs.both hN)
  have HT := Lib.hid hT.both
  have HB := Lib.hid hB.both
  have HNM := Lib.hid NM
  have hme := NM.hme
  have hcf := NM.hcf
  have HOK := Lib.hid (takeAll_ok hfit.small hfit.u32 htake)
  have HVL := Lib.hid (takeAll_length htake)
  have HTK := Lib.hid htake
  have HLE := Lib.hid hleft
  have HFit := Lib.hid hfit
  have HF := Lib.hid hf
  have d1 : ((x.toNat : Int) < 0) = False := eq_false (by omega)
  have d2 : (255 < (x.toNat : Int)) = False := eq_false (by omega)
  have d3 : (x.toNat : Int) % 256 = (x.toNat : Int) := by omega
  have u1 := ta_bool
  have u2 := ta_arr
  have u4 := ta_u32
  have u6 := ta_str
  have u7 := ta_rest
  have u8 := ta_bytes
  have u9 := ta_strs
  have hmf : ∀ (fn : Fn) (first cap : Array Value) (w : World), (Instr.makeFunc fn first cap).run Try.prog w = .ok (.func fn first cap) w := fun _ _ _ _ => rfl
  clear hI hS hN hT hB NM htake hleft hfit hf i1 i2 s1 s2 n1 n2 t1 t2 b1 b2
  go_enter Try.func12, Try.ntmps12
  go_wp2_with (first
    | (go_at_call 28; refine (HNM.out.new _).mono ?_; rintro e w1 ⟨rfl, rfl⟩)
    | (refine (HNM.out.fields _ _).mono ?_; rintro e w2 ⟨q1, q2, rfl, hq1, hq2, hn1, hn2, hbl⟩))
  have k1 : Blk w2 w0.heap.size 28 #[.int .i64 (x.toNat : Int), .slice AI M.ints.length cI, .slice AS M.strings.length cS, .slice AN M.names.length cN, .slice AT M.truths.length cT, .slice AB M.bytes.length cB] := by
    have h := Blk.new w0 28 #[.int .i64 (x.toNat : Int), .slice AI M.ints.length cI, .slice AS M.strings.length cS, .slice AN M.names.length cN, .slice AT M.truths.length cT, .slice AB M.bytes.length cB]
    exact (((h.alloc _).alloc _).alloc _).under hbl
  have k2 : Blk w2 (w0.heap.size + 1) 26 #[.slice none 0 0] := by
    have h := Blk.new (w0.alloc (.cells #[.int .i64 (x.toNat : Int), .slice AI M.ints.length cI, .slice AS M.strings.length cS, .slice AN M.names.length cN, .slice AT M.truths.length cT, .slice AB M.bytes.length cB] 28)) 26 #[.slice none 0 0]
    simp only [World.size_alloc] at h
    exact ((h.alloc _).alloc _).under hbl
  have kp : Blk w2 (w0.heap.size + 1 + 1) t cs0 := by
    have h := Blk.new ((w0.alloc (.cells #[.int .i64 (x.toNat : Int), .slice AI M.ints.length cI, .slice AS M.strings.length cS, .slice AN M.names.length cN, .slice AT M.truths.length cT, .slice AB M.bytes.length cB] 28)).alloc (.cells #[.slice none 0 0] 26)) t cs0
    simp only [World.size_alloc] at h
    exact (h.alloc _).under hbl
  have k4 : Blk w2 (w0.heap.size + 1 + 1 + 1) 73 #[.iface T (.pointer (some ⟨w0.heap.size + 1 + 1, 0, none⟩))] := by
    have h := Blk.new (((w0.alloc (.cells #[.int .i64 (x.toNat : Int), .slice AI M.ints.length cI, .slice AS M.strings.length cS, .slice AN M.names.length cN, .slice AT M.truths.length cT, .slice AB M.bytes.length cB] 28)).alloc (.cells #[.slice none 0 0] 26)).alloc (.cells cs0 t)) 73 #[.iface T (.pointer (some ⟨w0.heap.size + 1 + 1, 0, none⟩))]
    simp only [World.size_alloc] at h
    exact h.under hbl
  have hold : Below w0.heap.size w0 w2 := by
    have h : Below w0.heap.size w0 ((((w0.alloc (.cells #[.int .i64 (x.toNat : Int), .slice AI M.ints.length cI, .slice AS M.strings.length cS, .slice AN M.names.length cN, .slice AT M.truths.length cT, .slice AB M.bytes.length cB] 28)).alloc (.cells #[.slice none 0 0] 26)).alloc (.cells cs0 t)).alloc (.cells #[.iface T (.pointer (some ⟨w0.heap.size + 1 + 1, 0, none⟩))] 73)) :=
      ((((Below.refl _ _).alloc (Nat.le_refl _) _).alloc (by simp only [World.size_alloc]; omega) _).alloc (by simp only [World.size_alloc]; omega) _).alloc (by simp only [World.size_alloc]; omega) _
    exact h.trans (hbl.mono h.size)
  have hq2g : q2 ≠ w0.heap.size + 1 + 1 := by simp only [World.size_alloc] at hn2; omega
  have K1 := Lib.hid k1
  have K2 := Lib.hid k2
  have K4 := Lib.hid k4
  have KP := Lib.hid kp
  have KQ := Lib.hid hq2
  have HOld := Lib.hid hold
  have HL100 := Lib.hid HNM.out.len
  have HLV : Hid (vals.length = L.length) := by have h1 := HVL.out; rw [← HNM.out.form, List.length_map] at h1; exact h1
  clear k1 k2 k4 kp hold hbl hn1 hn2 hq1 hq2 d1 d2 d3
  go_loopg [7, 8, 9, 10, 42] L.length (fun gk v7 v8 v9 v10 v42 wr => ∃ (i s n tt pos : Nat) (cs : Array Value), v7 = .int .i64 (i : Int) ∧ v8 = .int .i64 (s : Int) ∧ v9 = .int .i64 (n : Int) ∧ v10 = .int .i64 (tt : Int) ∧ v42 = .int .i64 (pos : Int) ∧ pos ≤ L.length ∧ Hid (pos + gk = L.length) ∧
    Hid (takeAll (form.drop pos) (cutM M i s n tt) = some (vals.drop pos, Le)) ∧ Hid (i ≤ M.ints.length ∧ s ≤ M.strings.length ∧ n ≤ M.names.length ∧ tt ≤ M.truths.length) ∧ Hid (WrSt w2 (w0.heap.size + 1 + 1) t cs0.size L vals pos cs wr))
  case atStart => exact ⟨0, 0, 0, 0, 0, cs0, rfl, rfl, rfl, rfl, rfl, by omega, by simp [Hid], HTK, ⟨by omega, by omega, by omega, by omega⟩, ⟨KP.out, rfl, Got.nil _ _ _ _, Keep.refl _ _⟩⟩
  case round =>
    obtain ⟨i, s, n, tt, pos, cs, rfl, rfl, rfl, rfl, rfl, hpos, hgk, htk, hbd, HW⟩ := hrel
    by_cases hlt : pos < L.length
    · obtain ⟨⟨c0, off⟩, hq⟩ : ∃ q, L[pos]? = some q := ⟨_, List.getElem?_eq_getElem hlt⟩
      have hform : form.drop pos = c0 :: form.drop (pos + 1) := drop_cons_of (by rw [← HNM.out.form, List.getElem?_map, hq]; rfl)
      have htk2 := htk.out
      rw [hform] at htk2
      obtain ⟨fv, L', vr, hv1, hv2, hv3⟩ := takeAll_cons htk2
      obtain ⟨hfv, rfl⟩ := drop_head hv2
      obtain ⟨hlet, _, hoff⟩ := Laid.at HNM.out.laid hq
      have hofl : off < cs.size := by
        rw [HW.out.size]
        have hw1 : 1 ≤ widthC c0 := by unfold widthC; split <;> omega
        have hoff : off + widthC c0 ≤ cs0.size := hoff
        omega
      have hfc0 : wr.cell? ⟨q2, pos, none⟩ = some (fieldV (w0.heap.size + 1 + 1) c0 off) := by
        rw [(KQ.out.keep HW.out.keep hq2g).cell pos]
        simp [hq]
      obtain ⟨old, hold⟩ : ∃ old, wr.cell? ⟨w0.heap.size + 1 + 1, off, none⟩ = some old := by
        rw [HW.out.blk.cell off]
        exact ⟨_, Array.getElem?_eq_getElem hofl⟩
      have hfr := HW.out.blk.frozen off
      have HKM := Lib.hid (K1.out.keep HW.out.keep (show w0.heap.size ≠ w0.heap.size + 1 + 1 by omega))
      have hko : Keep (fun b => all_ b ∧ b < w0.heap.size) w0 wr := (Keep.of_below HOld.out).then HW.out.keep (fun b hb _ => show b ≠ _ by omega)
      have HKO := Lib.hid hko
      have HQ := Lib.hid hq
      have HFV := Lib.hid hfv
      have HOFL := Lib.hid hofl
      have HOFF := Lib.hid hoff
      have HG := Lib.hid (show gk - 1 < gk by have := hgk.out; omega)
      have HPos := Lib.hid (show pos + 1 + (gk - 1) = L.length by have := hgk.out; omega)
      have HV3 := Lib.hid hv3
      have hgl := HW.out.blk.lt
      have hp100 : L.length ≤ 100 := HL100.out
      have hbd10 : i ≤ 10 ∧ s ≤ 10 ∧ n ≤ 10 ∧ tt ≤ 10 := by
        have h1 := hbd.out
        have := HFit.out.ints
        have := HFit.out.strings
        have := HFit.out.names
        have := HFit.out.truths
        omega
      obtain ⟨hb1, hb2, hb3, hb4⟩ := hbd10
      clear hq hform htk htk2 hv2 hv3 hfv hoff hofl hko hgk hlet
      rcases takeV_cut hv1 with ⟨rfl, v, hx1, rfl, rfl⟩ | ⟨rfl, v, hx1, rfl, rfl⟩ | ⟨rfl, v, hx1, rfl, rfl⟩ | ⟨rfl, v, hx1, rfl, rfl⟩ | ⟨rfl, hl16, rfl, rfl⟩ | ⟨rfl, rfl, rfl⟩
      · --<n
        have hfc : wr.cell? ⟨q2, pos, none⟩ = some (.iface 64 (.pointer (some ⟨w0.heap.size + 1 + 1, off, none⟩))) := hfc0
        have hil : i < M.ints.length := (List.getElem?_eq_some_iff.1 hx1).1
        obtain ⟨ad, u, rfl, _, hc, rfl⟩ := (HI.out.keep (lit_steady _) HKO.out) i v hx1
        have hcv : wr.cell? (ad.add i) = some (.int .u32 (v : Int)) := hc
        have dg : ((M.ints.length : Int) ≤ (i : Int)) = False := eq_false (by omega)
        have hb10 : M.ints.length ≤ 10 := HFit.out.ints
        have hmk := HKM.out.cell 1
        have hm : wr.cell? ⟨w0.heap.size, 1, none⟩ = some (.slice (some ad) M.ints.length cI) := hmk
        have hvl : (i : Int) < (M.ints.length : Int) := by omega
        clear hfc0 hx1 hc hmk
        go_wp2_with fail
        go_roundg (gk - 1)
        case measure => exact HG.out
        case rel =>
          have hb := hbd.out
          exact ⟨i + 1, s, n, tt, pos + 1, cs.setIfInBounds off (.int .u32 (v : Int)), by go_num, by go_num, by go_num, by go_num, by go_num, by omega, HPos.out, HV3.out, ⟨by omega, by omega, by omega, by omega⟩,
            HW.out.step HNM.out.laid HQ.out HFV.out (HW.out.blk.set_ off _) (by simp) ((Keep.refl _ wr).setCell (fun _ ho => ho rfl) _) (fun j hj => by rw [Array.getElem?_setIfInBounds_ne (Nat.ne_of_gt hj)]) ⟨rfl, set_at HOFL.out⟩⟩
      · --<s
        have hfc : wr.cell? ⟨q2, pos, none⟩ = some (.iface 65 (.pointer (some ⟨w0.heap.size + 1 + 1, off, none⟩))) := hfc0
        have hil : s < M.strings.length := (List.getElem?_eq_some_iff.1 hx1).1
        obtain ⟨ad, u, rfl, _, hc, rfl⟩ := (HS.out.keep (lit_steady _) HKO.out) s v hx1
        have hcv : wr.cell? (ad.add s) = some (.string ⟨v.toArray⟩) := hc
        have dg : ((M.strings.length : Int) ≤ (s : Int)) = False := eq_false (by omega)
        have hb10 : M.strings.length ≤ 10 := HFit.out.strings
        have hmk := HKM.out.cell 2
        have hm : wr.cell? ⟨w0.heap.size, 2, none⟩ = some (.slice (some ad) M.strings.length cS) := hmk
        have hvl : (s : Int) < (M.strings.length : Int) := by omega
        clear hfc0 hx1 hc hmk
        go_wp2_with fail
        go_roundg (gk - 1)
        case measure => exact HG.out
        case rel =>
          have hb := hbd.out
          exact ⟨i, s + 1, n, tt, pos + 1, cs.setIfInBounds off (.string ⟨v.toArray⟩), by go_num, by go_num, by go_num, by go_num, by go_num, by omega, HPos.out, HV3.out, ⟨by omega, by omega, by omega, by omega⟩,
            HW.out.step HNM.out.laid HQ.out HFV.out (HW.out.blk.set_ off _) (by simp) ((Keep.refl _ wr).setCell (fun _ ho => ho rfl) _) (fun j hj => by rw [Array.getElem?_setIfInBounds_ne (Nat.ne_of_gt hj)]) ⟨rfl, set_at HOFL.out⟩⟩
      · --<l
        have hfc : wr.cell? ⟨q2, pos, none⟩ = some (.iface 67 (.pointer (some ⟨w0.heap.size + 1 + 1, off, none⟩))) := hfc0
        have hil : n < M.names.length := (List.getElem?_eq_some_iff.1 hx1).1
        obtain ⟨ad, u, rfl, _, hc, A5, c5, rfl, h5, h6, h7⟩ := (HN.out.keep strs_steady HKO.out) n v hx1
        have dg : ((M.names.length : Int) ≤ (n : Int)) = False := eq_false (by omega)
        have hmk := HKM.out.cell 3
        have hm : wr.cell? ⟨w0.heap.size, 3, none⟩ = some (.slice (some ad) M.names.length cN) := hmk
        have hvl : (n : Int) < (M.names.length : Int) := by omega
        have HR7 := Lib.hid h7
        have HVN := Lib.hid (HFit.out.name v (List.mem_of_getElem? hx1)).1
        have hadl := blk_lt_of_cell hc
        have hz : w0.heap.size < wr.heap.size := by omega
        clear hfc0 hx1 hmk h7
        go_wp2_with (at_builtin; refine wpList_append_RR rfl _ _ _ rfl wr.heap.size 9 (.string .empty) 16 Try.underlying23 info_str rfl (.slice (some ⟨wr.heap.size, 0, none⟩) 0 0) [] rfl (World.ownsRow_lit wr #[] 0 (Nat.le_refl _) (by decide) rfl) strV strV_one A5 c5 v rfl (RR.keep HR7.out (lit_steady _) ((Keep.refl _ wr).alloc _)) (by have := HVN.out; simp; omega) (by have := HVN.out; simp; omega) (by simp) ?_; intro A6 c6 w6 hown6 hg6 hat6; have hb6 : Below wr.heap.size wr w6 := (((Below.refl _ _).alloc (Nat.le_refl _) _).grown hg6 (by simp) (fun q hq => (by have h9 : wr.heap.size = q := (by simpa [Value.ownBlock] using hq); omega))); have hold6 := (hb6.cell (blk_lt_of_cell hold)).trans hold; have hfr6 := (hb6.frozen (blk_lt_of_cell hold)).trans hfr; have HB6 := Lib.hid hb6; have HO6 := Lib.hid (show w6.ownsRow wr.heap.size 9 1 (.slice A6 v.length c6) (v.map strV).length (v.map strV) by simpa using hown6); clear hown6 hg6 hat6 hb6)
        go_roundg (gk - 1)
        case measure => exact HG.out
        case rel =>
          have hb := hbd.out
          have hS6 : Strs (but (w0.heap.size + 1 + 1)) w6 (.slice A6 v.length c6) v := own_SL HO6.out (fun b hk => by have := (HO6.out.lt b hk).1; show b ≠ _; omega)
          exact ⟨i, s, n + 1, tt, pos + 1, cs.setIfInBounds off (.slice A6 v.length c6), by go_num, by go_num, by go_num, by go_num, by go_num, by omega, HPos.out, HV3.out, ⟨by omega, by omega, by omega, by omega⟩,
            HW.out.step HNM.out.laid HQ.out HFV.out ((HW.out.blk.under HB6.out).set_ off _) (by simp) ((Keep.of_below HB6.out).setCell (fun _ ho => ho rfl) _) (fun j hj => by rw [Array.getElem?_setIfInBounds_ne (Nat.ne_of_gt hj)]) ⟨rfl, _, set_at HOFL.out, strs_steady.keep hS6 ((Keep.refl _ w6).setCell (fun _ ho => ho rfl) _)⟩⟩
      · --<t
        have hfc : wr.cell? ⟨q2, pos, none⟩ = some (.iface 68 (.pointer (some ⟨w0.heap.size + 1 + 1, off, none⟩))) := hfc0
        have hil : tt < M.truths.length := (List.getElem?_eq_some_iff.1 hx1).1
        obtain ⟨ad, u, rfl, _, hc, rfl⟩ := (HT.out.keep (lit_steady _) HKO.out) tt v hx1
        have hcv : wr.cell? (ad.add tt) = some (.bool v) := hc
        have dg : ((M.truths.length : Int) ≤ (tt : Int)) = False := eq_false (by omega)
        have hb10 : M.truths.length ≤ 10 := Nat.le_trans HFit.out.truths (by decide)
        have hmk := HKM.out.cell 4
        have hm : wr.cell? ⟨w0.heap.size, 4, none⟩ = some (.slice (some ad) M.truths.length cT) := hmk
        have hvl : (tt : Int) < (M.truths.length : Int) := by omega
        clear hfc0 hx1 hc hmk
        go_wp2_with fail
        go_roundg (gk - 1)
        case measure => exact HG.out
        case rel =>
          have hb := hbd.out
          exact ⟨i, s, n, tt + 1, pos + 1, cs.setIfInBounds off (.bool v), by go_num, by go_num, by go_num, by go_num, by go_num, by omega, HPos.out, HV3.out, ⟨by omega, by omega, by omega, by omega⟩,
            HW.out.step HNM.out.laid HQ.out HFV.out (HW.out.blk.set_ off _) (by simp) ((Keep.refl _ wr).setCell (fun _ ho => ho rfl) _) (fun j hj => by rw [Array.getElem?_setIfInBounds_ne (Nat.ne_of_gt hj)]) ⟨rfl, set_at HOFL.out⟩⟩
      · --<c
        have hfc : wr.cell? ⟨q2, pos, none⟩ = some (.iface 69 (.pointer (some ⟨w0.heap.size + 1 + 1, off, none⟩))) := hfc0
        have hsl := run_slice_arr (w0.heap.size + 1 + 1) off
        have hBw := HB.out.keep (lit_steady _) HKO.out
        obtain ⟨ad, rfl, _, hbc⟩ := hBw.addr (by omega)
        have hmk := HKM.out.cell 5
        have hm : wr.cell? ⟨w0.heap.size, 5, none⟩ = some (.slice (some ad) M.bytes.length cB) := hmk
        rw [hl16] at hm
        have hll : (M.bytes.map byteV).length = 16 := by rw [List.length_map]; exact hl16
        have hoff2 : off + (M.bytes.map byteV).length ≤ cs.size := by rw [hll, HW.out.size]; exact HOFF.out
        have hcp : (Builtin.copy_ #[26, 26] 3 #[.slice (some ⟨w0.heap.size + 1 + 1, off, none⟩) 16 16, .slice (some ad) 16 cB]).run Try.prog wr.drew = .ok (goInt 16) (wr.drew.setRow (w0.heap.size + 1 + 1) (cs.toList.take off ++ M.bytes.map byteV ++ cs.toList.drop (off + (M.bytes.map byteV).length)).toArray) := by
          have h := run_copy_row (P := Try.prog) wr.drew 26 26 3 5 (w0.heap.size + 1 + 1) off 16 16 ad 16 cB cs t (M.bytes.map byteV) Try.underlying26 (by obtain ⟨i0, hi0, _, hsz, _⟩ := info_parts info_u8; rw [hi0]; simp [hsz]) HW.out.blk (by rw [hll]; rfl) (fun j u hu => by
            rw [List.getElem?_map] at hu
            obtain ⟨y, hy, rfl⟩ := Option.map_eq_some_iff.1 hu
            obtain ⟨u', h1, h2⟩ := hbc j y hy
            have h2 : u' = byteV y := h2
            rw [← h2]
            exact h1) hoff2 (fun u hu => by obtain ⟨y, _, rfl⟩ := List.mem_map.1 hu; rfl)
          rw [hll] at h ⊢
          exact h
        obtain ⟨cs2, hcs2⟩ : ∃ a, a = (cs.toList.take off ++ M.bytes.map byteV ++ cs.toList.drop (off + (M.bytes.map byteV).length)).toArray := ⟨_, rfl⟩
        rw [← hcs2] at hcp
        have hspl := splice_get hoff2
        rw [← hcs2] at hspl
        have HSPL := Lib.hid hspl
        have H16 := Lib.hid hl16
        clear hfc0 hmk hBw hbc hoff2 hll hcs2 hspl hl16
        go_wp2_with fail
        go_region_law (refine step_copy_runI rfl _ _ _ _ rfl _ _ rfl rfl hcp ?_)
        all_goals
          go_wp2_with fail
          go_roundg (gk - 1)
          case measure => exact HG.out
          case rel =>
            have hb := hbd.out
            have h := HSPL.out
            exact ⟨i, s, n, tt, pos + 1, cs2, by go_num, by go_num, by go_num, by go_num, by go_num, by omega, HPos.out, HV3.out, ⟨by omega, by omega, by omega, by omega⟩,
              HW.out.step HNM.out.laid HQ.out HFV.out (Blk.setRow (w := wr.drew) HW.out.blk cs2) h.1 ((Keep.refl _ wr).drew.trans (Keep.setRow wr.drew _ cs2)) h.2.1 ⟨rfl, H16.out, fun j y hy => h.2.2 j (byteV y) (by rw [List.getElem?_map, hy]; rfl)⟩⟩
      · --<r
        have hfc : wr.cell? ⟨q2, pos, none⟩ = some (.iface 71 (.agg #[.pointer (some ⟨w0.heap.size + 1 + 1, off, none⟩)])) := hfc0
        have hmk := HKM.out.cell 5
        have hm : wr.cell? ⟨w0.heap.size, 5, none⟩ = some (.slice AB M.bytes.length cB) := hmk
        have HBW := Lib.hid (HB.out.keep (lit_steady _) HKO.out)
        have HBL := Lib.hid HFit.out.bytes
        have HOwn := Lib.hid (show ∀ W : World, Below wr.heap.size wr W → Calls Try.prog 27 #[.slice AB M.bytes.length cB] W (NewS W M.bytes) from fun W hb => news_of (own_new _ AB cB M.bytes W (by have := HBL.out; omega) (RR.keep HBW.out (lit_steady _) (Keep.of_below hb))))
        have hz : w0.heap.size < wr.heap.size := by omega
        clear hfc0 hmk
        go_wp2_with fail
        go_region_law (go_simp; go_at_call 27; refine (HOwn.out _ ((Below.refl _ wr).alloc (Nat.le_refl _) _).drew).mono ?_; rintro e w6 ⟨A6, c6, rfl, hown6, h61, h62, hb6⟩; have hb7 : Below wr.heap.size wr w6 := (((Below.refl _ wr).alloc (Nat.le_refl _) _).drew).trans (hb6.mono (by simp)); have hold6 := (hb7.cell (blk_lt_of_cell hold)).trans hold; have hfr6 := (hb7.frozen (blk_lt_of_cell hold)).trans hfr; have h19 : w6.cell? ⟨wr.heap.size, 0, none⟩ = some (.pointer (some ⟨w0.heap.size + 1 + 1, off, none⟩)) := (hb6.cell (by simp)).trans (by simp); have HB6 := Lib.hid hb7; have HO6 := Lib.hid hown6; clear hown6 hb6 hb7)
        all_goals
          go_wp2_with fail
          go_roundg (gk - 1)
          case measure => exact HG.out
          case rel =>
            have hb := hbd.out
            have hS6 : Byts (but (w0.heap.size + 1 + 1)) w6 (.slice A6 M.bytes.length c6) M.bytes := own_SL (by rw [List.length_map]; exact HO6.out) (fun b hk => by have := (HO6.out.lt b hk).1; simp at this; show b ≠ _; omega)
            exact ⟨i, s, n, tt, pos + 1, cs.setIfInBounds off (.slice A6 M.bytes.length c6), by go_num, by go_num, by go_num, by go_num, by go_num, by omega, HPos.out, HV3.out, ⟨by omega, by omega, by omega, by omega⟩,
              HW.out.step HNM.out.laid HQ.out HFV.out ((HW.out.blk.under HB6.out).set_ off _) (by simp) ((Keep.of_below HB6.out).setCell (fun _ ho => ho rfl) _) (fun j hj => by rw [Array.getElem?_setIfInBounds_ne (Nat.ne_of_gt hj)]) ⟨rfl, _, set_at HOFL.out, bytes_steady.keep hS6 ((Keep.refl _ w6).setCell (fun _ ho => ho rfl) _)⟩⟩
    · --<e
      have hpe : pos = L.length := by omega
      have hfl : form.length = L.length := by rw [← HNM.out.form, List.length_map]
      have htk2 := htk.out
      rw [hpe, List.drop_eq_nil_of_le (by omega)] at htk2
      simp only [takeAll, Option.some.injEq, Prod.mk.injEq] at htk2
      have hle := HLE.out
      rw [← htk2.2] at hle
      simp only [leftOf, cutM, List.length_drop] at hle
      have hb := hbd.out
      obtain rfl : i = M.ints.length := by omega
      obtain rfl : s = M.strings.length := by omega
      obtain rfl : n = M.names.length := by omega
      obtain rfl : tt = M.truths.length := by omega
      subst hpe
      have HKM := Lib.hid (K1.out.keep HW.out.keep (show w0.heap.size ≠ w0.heap.size + 1 + 1 by omega))
      have m1 : wr.cell? ⟨w0.heap.size, 1, none⟩ = some (.slice AI M.ints.length cI) := HKM.out.cell 1
      have m2 : wr.cell? ⟨w0.heap.size, 2, none⟩ = some (.slice AS M.strings.length cS) := HKM.out.cell 2
      have m3 : wr.cell? ⟨w0.heap.size, 3, none⟩ = some (.slice AN M.names.length cN) := HKM.out.cell 3
      have m4 : wr.cell? ⟨w0.heap.size, 4, none⟩ = some (.slice AT M.truths.length cT) := HKM.out.cell 4
      have kk2 := K2.out.keep HW.out.keep (show w0.heap.size + 1 ≠ w0.heap.size + 1 + 1 by omega)
      have kk4 := K4.out.keep HW.out.keep (show w0.heap.size + 1 + 1 + 1 ≠ w0.heap.size + 1 + 1 by omega)
      have hfill : Filled wr (w0.heap.size + 1 + 1) x.toNat T F t cs L vals :=
        ⟨HW.out.blk, by omega, HLV.out, HL100.out, fun j fv q h1 h2 => by
          have h3 := HW.out.got j fv q (by rw [← HLV.out, List.take_length]; exact h1) h2
          exact h3.lt_.mono (fun b _ hb => hb.2), HOK.out, HNM.out.hme, HNM.out.hcf, HNM.out.fields⟩
      have hx8 : UInt8.ofNat x.toNat = x := by simp
      obtain ⟨l, hl⟩ : ∃ l, l = x :: mshAll vals := ⟨_, rfl⟩
      obtain ⟨Wc, hWc⟩ : ∃ W, W = wr.alloc (.cells #[.bool false] 4) := ⟨_, rfl⟩
      have hbc : Below wr.heap.size wr Wc := by rw [hWc]; exact (Below.refl _ _).alloc (Nat.le_refl _) _
      have hsc : Wc.heap.size = wr.heap.size + 1 := by rw [hWc]; simp
      have hblkc : Blk Wc wr.heap.size 4 #[.bool false] := by rw [hWc]; exact Blk.new _ _ _
      have h1 := wm1 Wc (w0.heap.size + 1 + 1 + 1) (w0.heap.size + 1) (w0.heap.size + 1 + 1) x.toNat T F t cs L vals (hfill.below hbc) (.slice none 0 0) ((kk4.under hbc).cell 0) ((kk2.under hbc).cell 0) ((kk2.under hbc).frozen 0)
      rw [hx8, ← hl] at h1
      have hg2l := kk2.lt
      have hcff : ∀ (a b : Nat) (W : World), (callFunc 29 #[.pointer (some ⟨a, 0, none⟩), .pointer (some ⟨b, 0, none⟩)]).run Try.prog W = .ok (.enter 29 #[.pointer (some ⟨a, 0, none⟩), .pointer (some ⟨b, 0, none⟩)]) W := fun a b W => by kernel_rfl
      have hc := calm_walk 29 #[.pointer (some ⟨w0.heap.size + 1 + 1 + 1, 0, none⟩), .pointer (some ⟨w0.heap.size + 1, 0, none⟩)] wr (WmEnd Wc (w0.heap.size + 1) l) (hcff _ _) (by
        rw [← hWc]
        refine h1.mono ?_
        rintro e w' ⟨rfl, h⟩
        have := hblkc.keep h.1 (show wr.heap.size ≠ w0.heap.size + 1 by omega)
        exact ⟨rfl, this.cell 0, this.frozen 0, h⟩)
      have HLL := Lib.hid hl
      have hbel : Below w0.heap.size w0 Wc := by
        have h2 : Keep (fun b => b < w0.heap.size) w0 wr := (Keep.of_below HOld.out).then HW.out.keep (fun b hb _ => show b ≠ _ by omega)
        have h3 := h2.trans (Keep.of_below hbc)
        exact ⟨h3.os, h3.tape, h3.output, h3.size, fun b hb => h3.block b hb hb⟩
      have HC := Lib.hid hc
      have HBel := Lib.hid hbel
      have HSC := Lib.hid hsc
      have hgpl : w0.heap.size + 1 < wr.heap.size := hg2l
      clear hc hbel hsc h1 hfill hl hx8 hWc hbc hblkc htk htk2 hle hb hbd hfl kk2 kk4 hlt hpos hgk hcff hg2l
      go_wp2_with fail
      refine HC.out.mono ?_
      rintro e w9 ⟨rfl, w8, ⟨hk8, A, c, hc8, hf8, hr8, hl8, hm8⟩, rfl⟩
      have HK8 := Lib.hid hk8
      have HR8 := Lib.hid hr8
      have hne : wr.heap.size ≠ w0.heap.size + 1 := by omega
      have hne2 : w0.heap.size + 1 ≠ wr.heap.size := by omega
      have hc9 : (w8.setCell ⟨wr.heap.size, 0, none⟩ (.bool true)).cell? ⟨w0.heap.size + 1, 0, none⟩ = some (.slice A l.length c) := by simp [go_sem, hne, hne2, hc8]
      have hf9 : (w8.setCell ⟨wr.heap.size, 0, none⟩ (.bool true)).frozen? ⟨w0.heap.size + 1, 0, none⟩ = false := by simp [go_sem, hf8]
      clear hk8 hr8
      go_wp2_with fail
      refine bodyPost_ret (v := .tuple #[.slice A l.length c, .bool true]) (by simp [results, Try.results12, go_sem, hc9]) rfl ?_
      rw [← HLL.out]
      have hs := HSC.out
      have k1 : Keep (fun b => b < w0.heap.size) w0 w8 := (Keep.of_below HBel.out).then HK8.out (fun b hb _ => show b ≠ _ by omega)
      have k2 := (k1.setCell (p := ⟨wr.heap.size, 0, none⟩) (fun hlt _ => by simp at hlt; omega) (.bool true)).setCell (p := ⟨w0.heap.size + 1, 0, none⟩) (fun hlt _ => absurd hlt (by show ¬ (w0.heap.size + 1 < w0.heap.size); omega)) (.slice A l.length c)
      refine ⟨A, c, rfl, RR.mono (RR.keep HR8.out (lit_steady _) (((Keep.refl _ w8).setCell (p := ⟨wr.heap.size, 0, none⟩) (fun _ ho => by simp at ho; omega) (.bool true)).setCell (p := ⟨w0.heap.size + 1, 0, none⟩) (fun _ ho => by simp at ho; omega) (.slice A l.length c))) (lit_steady _) (fun _ _ _ => trivial), ⟨k2.os, k2.tape, k2.output, k2.size, fun b hb => k2.block b hb hb⟩⟩

end Go.Proofs.Ytnlkgaobbobakaa
