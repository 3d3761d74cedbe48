/- ssh.marshalStruct, ssh.Marshal over structures without a message number: the bytes of the fields. -/
import Derived.Test.YtoeepfmmceilaaaGreatDoorLnWBytes
import Derived.Test.YtoeepfmmceilaaaGreatDoorLnUnm
set_option linter.unusedVariables false
set_option linter.unusedSimpArgs false
namespace Go.Proofs.YtoeepfmmceilaaaGreatDoor
open Go.RowKit

/-- A field's bytes. -/
def mshV : Fv → List UInt8
  | .b l => strP l
  | .s l => strP l
  | .r l => l
def mshAll (vals : List Fv) : List UInt8 := vals.flatMap mshV
/-- A field of bounded length. -/
def FvOk : Fv → Prop
  | .b l => l.length ≤ 4000
  | .s l => l.length ≤ 4000
  | .r l => l.length ≤ 4000
theorem be4_length (n : Nat) : (be4 n).length = 4 := rfl
theorem strP_len_ (l : List UInt8) : (strP l).length = l.length + 4 := by simp [strP, be4]
theorem mshV_len {fv : Fv} (h : FvOk fv) : (mshV fv).length ≤ 4004 := by
  cases fv with
  | b l => simp only [mshV, strP_len_]; have : l.length ≤ 4000 := h; omega
  | s l => simp only [mshV, strP_len_]; have : l.length ≤ 4000 := h; omega
  | r l => show l.length ≤ _; have : l.length ≤ 4000 := h; omega
theorem mshAll_len : ∀ {vals : List Fv}, (∀ fv ∈ vals, FvOk fv) → (mshAll vals).length ≤ vals.length * 4004
  | [], _ => by simp [mshAll]
  | fv :: r, h => by
    have h1 := mshV_len (h fv (List.mem_cons_self ..))
    have h2 := mshAll_len (fun q hq => h q (List.mem_cons_of_mem fv hq))
    simp only [mshAll, List.flatMap_cons, List.length_append, List.length_cons, Nat.add_mul] at *
    omega
theorem mshAll_snoc (vals : List Fv) (fv : Fv) : mshAll (vals ++ [fv]) = mshAll vals ++ mshV fv := by simp [mshAll, List.flatMap_append]

/-- The state while the fields are written; b2: the row of fields. -/
structure MsSt (B : Nat) (W : World) (b2 : Nat) (cs2 : Array Value) (A : Option Addr) (c : Nat) (out : List UInt8) (w : World) : Prop where
  own : w.ownsRow B 5 1 (.slice A out.length c) out.length (out.map byteV)
  row : Blk w b2 20 cs2
  keep : Keep (fun b => b < B) W w
  lo : B ≤ W.heap.size
section
variable {B : Nat} {W w w' : World} {b2 : Nat} {cs2 : Array Value} {A : Option Addr} {c : Nat} {out : List UInt8}
theorem MsSt.size (h : MsSt B W b2 cs2 A c out w) : B ≤ w.heap.size := Nat.le_trans h.lo h.keep.size
theorem MsSt.own' (h : MsSt B W b2 cs2 A c out w) : w.ownsRow B 5 1 (.slice A out.length c) (out.map byteV).length (out.map byteV) := by rw [List.length_map]; exact h.own
theorem MsSt.below (h : MsSt B W b2 cs2 A c out w) (hb : Below w.heap.size w w') : MsSt B W b2 cs2 A c out w' :=
  ⟨own_move_ h.own (fun k hk => hb.block k (own_block_lt h.own hk).2), (hb.block b2 h.row.lt).trans h.row, h.keep.trans (Keep.of_below hb), h.lo⟩
theorem MsSt.drewN (h : MsSt B W b2 cs2 A c out w) (n : Nat) : MsSt B W b2 cs2 A c out (w.drewN n) := h.below ⟨rfl, rfl, rfl, Nat.le_refl _, fun _ _ => rfl⟩
theorem MsSt.alloc (h : MsSt B W b2 cs2 A c out w) (o : Obj) : MsSt B W b2 cs2 A c out (w.alloc o) := h.below ((Below.refl _ _).alloc (Nat.le_refl _) o)
/-- The row has grown. -/
theorem MsSt.grow (h : MsSt B W b2 cs2 A c out w) {A' : Option Addr} {c' : Nat} {out' : List UInt8} (hown : w'.ownsRow B 5 1 (.slice A' out'.length c') out'.length (out'.map byteV)) (hg : w.grownBy w' (Value.slice A out.length c).ownBlock) : MsSt B W b2 cs2 A' c' out' w' :=
  ⟨hown, (hg.block b2 h.row.lt (fun e => own_ne_blk h.own h.row (by decide) e.symm)).trans h.row, h.keep.grown hg (fun g hg hlt ho => by have := (own_block_lt h.own hg).1; omega), h.lo⟩
theorem MsSt.cell (h : MsSt B W b2 cs2 A c out w) {gp : Nat} (hgp : gp < B) {t : TypeId} {cs : Array Value} (hb : Blk W gp t cs) : Blk w gp t cs := hb.keep h.keep hgp
end
theorem AppEnd.any {B : Nat} {w : World} {v : Value} {l : List UInt8} {e : Ending} {w' : World} (h : AppEnd B w v l e w') : ∃ (o : List UInt8) (A' : Option Addr) (c' : Nat), Hid (o = l) ∧ e = .returned (.slice A' o.length c') ∧ w'.ownsRow B 5 1 (.slice A' o.length c') o.length (o.map byteV) ∧ w.grownBy w' v.ownBlock := by
  obtain ⟨A', c', h1, h2, h3⟩ := h
  exact ⟨l, A', c', rfl, h1, h2, h3⟩
theorem own_open {w : World} {B : Nat} {e : TypeId} {A : Option Addr} {n c : Nat} {xs : List Value} (h : w.ownsRow B e 1 (.slice A n c) n xs) (hn : 0 < n) : ∃ g cur, A = some ⟨g, 0, none⟩ ∧ Blk w g e cur ∧ cur.size = c ∧ n ≤ c := by
  rcases h.2 with ⟨_, h0⟩ | ⟨g, cap, cur, hv, h1, h2, h3, h4, h5, h6⟩
  · omega
  · injection hv with e1 e2 e3
    subst e1 e3
    exact ⟨g, cur, rfl, h2, by simpa using h5, h3⟩
theorem slice_from {P : Program} (t e : TypeId) {i : TypeInfo} (ht : P.underlying t = some (.slice e)) (hi : P.info? e = some i) (hsz : i.size = 1) (g n c m : Nat) (hm : m < n) (hc : n ≤ c) (W : World) :
    (Instr.slice t (.slice (some ⟨g, 0, none⟩) n c) (some (.int .i64 (m : Int))) none none).run P W = .ok (.slice (some ⟨g, m, none⟩) (n - m) (c - m)) W := by
  have hel : P.elem t = e := by simp [Program.elem, ht]
  have hu : P.underlying t = some (.slice (P.elem t)) := by rw [hel]; exact ht
  rw [run_slice_l W t _ n c hu .i64 (m : Int) (Int.natCast_nonneg _) (by omega), hel]
  have h1 : c ≠ m := by omega
  by_cases h0 : m = 0
  · subst h0; simp [sizeOf, typeInfo, hi, hsz, sliced, Result.andThen, Addr.add]
  · simp [sizeOf, typeInfo, hi, hsz, sliced, Result.andThen, Addr.add, h1, h0]
theorem push_own {w : World} {B : Nat} {A : Option Addr} {n c : Nat} {out : List UInt8} {x : UInt8} (h : w.ownsRow B 5 1 (.slice A n c) (out.map byteV ++ [byteV x]).length (out.map byteV ++ [byteV x])) (hn : n = (out ++ [x]).length) : w.ownsRow B 5 1 (.slice A (out ++ [x]).length c) (out ++ [x]).length ((out ++ [x]).map byteV) := by
  subst hn
  simpa using h
theorem app_own {w : World} {B : Nat} {A : Option Addr} {n c : Nat} {out l : List UInt8} (h : w.ownsRow B 5 1 (.slice A n c) (out.map byteV ++ l.map byteV).length (out.map byteV ++ l.map byteV)) (hn : n = (out ++ l).length) : w.ownsRow B 5 1 (.slice A (out ++ l).length c) (out ++ l).length ((out ++ l).map byteV) := by
  subst hn
  simpa using h
/-- How marshalling ends. -/
def MarEnd (B : Nat) (w : World) (l : List UInt8) (e : Ending) (w' : World) : Prop :=
  ∃ (A' : Option Addr) (c' : Nat), e = .returned (.slice A' l.length c') ∧ w'.ownsRow B 5 1 (.slice A' l.length c') l.length (l.map byteV) ∧ Below B w w'

set_option maxRecDepth 100000 in
set_option maxHeartbeats 1600000 in
theorem marshal_walk (B : Nat) (w0 : World) (T F gp : Nat) (t : TypeId) (cs : Array Value) (L : List (UInt8 × Nat)) (vals : List Fv) (A : Option Addr) (c : Nat)
    (hgp : Blk w0 gp t cs) (hgpB : gp < B) (hB : B ≤ w0.heap.size) (hlen : vals.length = L.length) (hLl : L.length ≤ 100) (hgot : Got (fun b => b < B) w0 cs L vals) (hok : ∀ fv ∈ vals, FvOk fv)
    (hown : w0.ownsRow B 5 1 (.slice A 0 c) 0 [])
    (hme : ∀ W : World, (method 456 T (.pointer (some ⟨gp, 0, none⟩)) "ZzFields").run Tryz.prog W = .ok (F, .pointer (some ⟨gp, 0, none⟩)) W)
    (hcf : ∀ W : World, (callFunc F #[.pointer (some ⟨gp, 0, none⟩)]).run Tryz.prog W = .ok (.enter F #[.pointer (some ⟨gp, 0, none⟩)]) W)
    (hf : ∀ W, Calls Tryz.prog F #[.pointer (some ⟨gp, 0, none⟩)] W (FieldsEnd0 W gp L)) :
    Calls Tryz.prog 208 #[.slice A 0 c, .iface T (.pointer (some ⟨gp, 0, none⟩))] w0 (MarEnd B w0 (mshAll vals)) := by
  have HF := Lib.hid hf
  have HBk := Lib.hid hgp
  have HG := Lib.hid hgot
  have HOK := Lib.hid hok
  have HOW := Lib.hid hown
  have HBs := Lib.hid hB
  have t1 := ta_bool
  have t2 := ta_arr
  have t3 := ta_u64
  have t4 := ta_u32
  have t5 := ta_u8
  have t6 := ta_str
  have t7 := ta_rest
  have t8 := ta_bytes
  clear hf hgp hgot hok hown hB
  go_enter Tryz.func208, Tryz.ntmps208
  go_wp2_with (refine (HF.out _).mono ?_; rintro e w1 ⟨b2, rfl, hb2, hn2, hbl⟩; have HBL := Lib.hid hbl; have HB2 := Lib.hid hb2; have HBs1 := Lib.hid (Nat.le_trans HBs.out hbl.size); have HOW1 := Lib.hid (own_move_ HOW.out (fun k hk => hbl.block k (own_block_lt HOW.out hk).2)); clear hb2 hbl hn2)
  have hS2 : MsSt B w1 b2 (L.map fun q => fieldV0 gp q.1 q.2).toArray A c [] w1 := ⟨HOW1.out, HB2.out, Keep.refl _ _, HBs1.out⟩
  have hG1 : Got (fun b => b < B) w1 cs L vals := fun i fv q h1 h2 => (HG.out i fv q h1 h2).away rfl (Keep.of_below HBL.out)
  have hK1 : Blk w1 gp t cs := (HBL.out.block gp HBk.out.lt).trans HBk.out
  have HS2 := Lib.hid hS2
  have HG1 := Lib.hid hG1
  have HK1 := Lib.hid hK1
  have HLen := Lib.hid hlen
  have HL0 := Lib.hid hLl
  have HBE := Lib.hid (show Below B w0 w1 from HBL.out.mono HBs.out)
  clear hS2 hG1 hK1 HOW1 HBs1 HB2 HBL HBk HG HF HOW hlen
  go_loopg [0, 48] L.length (fun gk v0 v48 wr => ∃ (A2 : Option Addr) (c2 k : Nat) (out : List UInt8), v0 = .slice A2 out.length c2 ∧ v48 = .int .i64 (k : Int) ∧ k ≤ L.length ∧ Hid (k + gk = L.length) ∧ Hid (out = mshAll (vals.take k)) ∧
    Hid (MsSt B w1 b2 (L.map fun q => fieldV0 gp q.1 q.2).toArray A2 c2 out wr))
  case atStart => exact ⟨A, c, 0, [], rfl, rfl, by omega, by simp [Hid], rfl, HS2⟩
  case round =>
    clear HS2
    obtain ⟨A2, c2, k, out, rfl, rfl, hk, hgk, hout, HS⟩ := hrel
    have hol : out.length ≤ 400400 := by
      rw [hout.out]
      have h1 := mshAll_len (vals := vals.take k) (fun fv hm => HOK.out fv (List.mem_of_mem_take hm))
      rw [List.length_take] at h1
      have := HLen.out
      have := HL0.out
      omega
    by_cases hlt : k < L.length
    · obtain ⟨⟨c0, off⟩, hq⟩ : ∃ q, L[k]? = some q := ⟨_, List.getElem?_eq_getElem hlt⟩
      obtain ⟨fv, hfv⟩ : ∃ fv, vals[k]? = some fv := ⟨_, List.getElem?_eq_getElem (by have := HLen.out; omega)⟩
      have hfc0 : wr.cell? ⟨b2, k, none⟩ = some (fieldV0 gp c0 off) := by
        rw [HS.out.row.cell k]
        simp [hq]
      have hblk := HS.out.cell hgpB HK1.out
      have HBW := Lib.hid hblk
      have hF1 := HG1.out k fv (c0, off) hfv hq
      have hF := hF1.away rfl HS.out.keep
      have hc1 : wr.cell? ⟨gp, off, none⟩ = cs[off]? := hblk.cell off
      have hfok : FvOk fv := HOK.out fv (List.mem_of_getElem? hfv)
      have HM1 := Lib.hid (show out ++ mshV fv = mshAll (vals.take (k + 1)) by rw [hout.out, List.take_add_one, hfv]; simp [mshAll_snoc])
      have HOL := Lib.hid hol
      have HKK := Lib.hid hk
      have hgpl : gp < wr.heap.size := hblk.lt
      have HSZ := Lib.hid HS.out.size
      clear hblk hfv hq hout hol
      cases fv with
      | b l =>
        clear hF
        obtain ⟨hc, u, hv, A5, c5, hu, hc5, hm5, hr5⟩ := hF1
        obtain rfl : c0 = 98 := hc
        subst hu
        have hfc : wr.cell? ⟨b2, k, none⟩ = some (.iface 260 (.pointer (some ⟨gp, off, none⟩))) := hfc0
        have hcv : wr.cell? ⟨gp, off, none⟩ = some (.slice A5 l.length c5) := hc1.trans hv
        have hl200 : l.length ≤ 4000 := hfok
        have HP := Lib.hid (appInt B A2 c2 out l.length (by omega) wr (by have := HOL.out; omega) HSZ.out HS.out.own)
        have HR5 := Lib.hid hr5
        have HV := Lib.hid hv
        have HL2 := Lib.hid hl200
        have e4 : l.length % 4294967296 = l.length := by omega
        have HE4 := Lib.hid e4
        clear hv hfc0 hc1 e4 hr5
        have hol3 : ∀ o : List UInt8, Hid (o = out ++ be4 l.length) → o.length ≤ 400404 := fun o h => by rw [h.out]; have := HOL.out; simp [be4]; omega
        go_wp2_with (first
          | (go_at_call 212; refine HP.out.mono ?_; intro e w3 hae; obtain ⟨o3, A3, c3, ho3, rfl, hown3, hg3⟩ := hae.any; have hs3 := HS.out.grow hown3 hg3; have hcv3 : w3.cell? ⟨gp, off, none⟩ = some (.slice A5 l.length c5) := ((hs3.cell hgpB HK1.out).cell off).trans HV.out; have hr3 := Lib.hid (RR.keep HR5.out (lit_steady _) hs3.keep); have HS3 := Lib.hid hs3; clear hown3 hg3 hae hs3)
          | (at_builtin; refine wpList_append_RR rfl _ _ _ rfl B 5 (.int .u8 0) 1 Tryz.underlying28 info_u8 rfl (.slice A3 o3.length c3) (o3.map byteV) rfl HS3.out.own' byteV byteV_one A5 c5 l rfl hr3.out (by have := hol3 o3 ho3; have := HL2.out; rw [List.length_map]; omega) (by have := hol3 o3 ho3; have := HL2.out; rw [List.length_map]; omega) HS3.out.size ?_; intro A4 c4 w4 hown4 hg4 hat4; have HS4 := Lib.hid (HS3.out.grow (out' := o3 ++ l) (app_own hown4 (by simp)) hg4); clear hown4 hg4 hat4))
        go_roundg (gk - 1)
        case measure => have := hgk.out; omega
        case rel =>
          have hg := hgk.out
          have em : o3 ++ l = out ++ mshV (.b l) := by rw [ho3.out]; simp [mshV, strP, HE4.out]
          exact ⟨A4, c4, k + 1, o3 ++ l, by simp, by go_num, by omega, show _ = _ by omega, show _ = _ from em.trans HM1.out, HS4⟩
      | s l =>
        clear hF1
        obtain ⟨hc, hv⟩ := hF
        obtain rfl : c0 = 115 := hc
        have hfc : wr.cell? ⟨b2, k, none⟩ = some (.iface 259 (.pointer (some ⟨gp, off, none⟩))) := hfc0
        have hcv : wr.cell? ⟨gp, off, none⟩ = some (.string ⟨l.toArray⟩) := hc1.trans hv
        have hl200 : l.length ≤ 4000 := hfok
        have HP := Lib.hid (appInt B A2 c2 out l.length (by omega) wr (by have := HOL.out; omega) HSZ.out HS.out.own)
        have HL2 := Lib.hid hl200
        have e4 : l.length % 4294967296 = l.length := by omega
        have HE4 := Lib.hid e4
        clear hv hfc0 hc1 e4
        have hol3 : ∀ o : List UInt8, Hid (o = out ++ be4 l.length) → o.length ≤ 400404 := fun o h => by rw [h.out]; have := HOL.out; simp [be4]; omega
        go_wp2_with (first
          | (go_at_call 212; refine HP.out.mono ?_; intro e w3 hae; obtain ⟨o3, A3, c3, ho3, rfl, hown3, hg3⟩ := hae.any; have HS3 := Lib.hid (HS.out.grow hown3 hg3); clear hown3 hg3 hae)
          | (at_builtin; refine wpList_append_str rfl _ _ 28 9 rfl B 5 Tryz.underlying28 Tryz.underlying9 info_u8 (.slice A3 o3.length c3) (o3.map byteV) rfl HS3.out.own' l rfl (by have := hol3 o3 ho3; have := HL2.out; rw [List.length_map]; omega) HS3.out.size ?_; intro A4 c4 w4 hown4 hg4; have HS4 := Lib.hid (HS3.out.grow (out' := o3 ++ l) (app_own hown4 (by simp)) hg4); clear hown4 hg4))
        go_roundg (gk - 1)
        case measure => have := hgk.out; omega
        case rel =>
          have hg := hgk.out
          have em : o3 ++ l = out ++ mshV (.s l) := by rw [ho3.out]; simp [mshV, strP, HE4.out]
          exact ⟨A4, c4, k + 1, o3 ++ l, by simp, by go_num, by omega, show _ = _ by omega, show _ = _ from em.trans HM1.out, HS4⟩
      | r l =>
        clear hF1
        obtain ⟨hc, u, hv, A5, c5, hu, hc5, hm5, hr5⟩ := hF
        obtain rfl : c0 = 114 := hc
        subst hu
        have hfc : wr.cell? ⟨b2, k, none⟩ = some (.iface 262 (.agg #[.pointer (some ⟨gp, off, none⟩)])) := hfc0
        have hcv : wr.cell? ⟨gp, off, none⟩ = some (.slice A5 l.length c5) := hc1.trans hv
        have HR5 := Lib.hid hr5
        have HL5 := Lib.hid (show l.length ≤ 4000 from hfok)
        clear hv hfc0 hc1 hr5
        go_wp2_with (at_builtin; refine wpList_append_RR rfl _ _ _ rfl B 5 (.int .u8 0) 1 Tryz.underlying28 info_u8 rfl (.slice A2 out.length c2) (out.map byteV) rfl (HS.out.alloc _).own' byteV byteV_one A5 c5 l rfl (RR.keep HR5.out (lit_steady _) ((Keep.refl _ wr).alloc _)) (by have := HOL.out; have := HL5.out; rw [List.length_map]; omega) (by have := HOL.out; have := HL5.out; rw [List.length_map]; omega) (HS.out.alloc _).size ?_; intro A3 c3 w3 hown3 hg3 hat3; have HS3 := Lib.hid ((HS.out.alloc _).grow (out' := out ++ l) (app_own hown3 (by simp)) hg3); clear hown3 hg3 hat3)
        go_roundg (gk - 1)
        case measure => have := hgk.out; omega
        case rel =>
          have hg := hgk.out
          exact ⟨A3, c3, k + 1, out ++ l, by simp, by go_num, by omega, show _ = _ by omega, HM1, HS3⟩
    · have hke : k = L.length := by omega
      have hfin : out = mshAll vals := by
        rw [hout.out, hke, ← HLen.out, List.take_length]
      have HFin := Lib.hid hfin
      subst hke
      clear hfin hout
      go_wp2_with fail
      go_ret
      rw [HFin.out] at HS
      have h9 := HS.out.keep
      exact ⟨A2, c2, by rw [HFin.out]; rfl, HS.out.own, HBE.out.trans ⟨h9.os, h9.tape, h9.output, h9.size, fun b hb => h9.block b (Nat.lt_of_lt_of_le hb HS.out.lo) hb⟩⟩


set_option maxHeartbeats 400000 in
theorem marshal_any (w : World) (gp T F : Nat) (t : TypeId) (cs : Array Value) (L : List (UInt8 × Nat)) (vals : List Fv) (hgp : Blk w gp t cs) (hlen : vals.length = L.length) (hLl : L.length ≤ 100) (hgot : Got (fun b => b < w.heap.size) w cs L vals) (hok : ∀ fv ∈ vals, FvOk fv)
    (hme : ∀ W : World, (method 456 T (.pointer (some ⟨gp, 0, none⟩)) "ZzFields").run Tryz.prog W = .ok (F, .pointer (some ⟨gp, 0, none⟩)) W)
    (hcf : ∀ W : World, (callFunc F #[.pointer (some ⟨gp, 0, none⟩)]).run Tryz.prog W = .ok (.enter F #[.pointer (some ⟨gp, 0, none⟩)]) W)
    (hf : ∀ W, Calls Tryz.prog F #[.pointer (some ⟨gp, 0, none⟩)] W (FieldsEnd0 W gp L)) :
    Calls Tryz.prog 205 #[.iface T (.pointer (some ⟨gp, 0, none⟩))] w (MarEnd w.heap.size w (mshAll vals)) := by
  have hb : Below w.heap.size w (w.alloc (.cells (zeros 64) 5)) := (Below.refl _ _).alloc (Nat.le_refl _) _
  have hown : (w.alloc (.cells (zeros 64) 5)).ownsRow w.heap.size 5 1 (.slice (some ⟨w.heap.size, 0, none⟩) 0 64) 0 [] :=
    ⟨rfl, .inr ⟨w.heap.size, 64, zeros 64, rfl, Nat.le_refl _, heap_alloc_new w _, by decide, by decide, by simp [zeros, ← Array.length_toList, toList_madeCells_one], rfl⟩⟩
  have HM := Lib.hid (marshal_walk w.heap.size (w.alloc (.cells (zeros 64) 5)) T F gp t cs L vals (some ⟨w.heap.size, 0, none⟩) 64 ((hb.block gp hgp.lt).trans hgp) hgp.lt (by simp) hlen hLl (fun i fv q h1 h2' => ((hgot i fv q h1 h2').away rfl (Keep.of_below hb))) hok hown hme hcf hf)
  have hmk : ∀ W : World, (Instr.makeSlice 28 (.int .i64 0) (.int .i64 64)).run Tryz.prog W = .ok (.slice (some ⟨W.heap.size, 0, none⟩) 0 64) (W.alloc (.cells (zeros 64) 5)) := fun W => by
    obtain ⟨i, hi', hz, hs, hby⟩ := info_parts info_u8
    have h := run_make W 28 5 i (.int .u8 0) Tryz.underlying28 hi' hz .i64 .i64 0 64 (by omega) (by omega) (by rw [hby]; omega) (by omega)
    simp only [hs, Nat.mul_one, Value.cells] at h
    exact h
  have HB := Lib.hid hb
  clear hgp hlen hLl hgot hok hme hcf hf hown hb
  go_enter Tryz.func205, Tryz.ntmps205
  go_wp2_with (go_at_call 208; refine HM.out.mono ?_; rintro e w2 ⟨A2, c2, rfl, hown2, hb2⟩; have HO2 := Lib.hid hown2; have HB2 := Lib.hid hb2; clear hown2 hb2)
  go_ret
  exact ⟨A2, c2, rfl, HO2.out, HB.out.trans HB2.out⟩

end Go.Proofs.YtoeepfmmceilaaaGreatDoor
