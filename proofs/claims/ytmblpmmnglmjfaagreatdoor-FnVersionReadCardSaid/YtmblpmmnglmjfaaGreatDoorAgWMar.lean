/- ssh.marshalStruct, ssh.Marshal: the bytes of a message's fields. -/
import Derived.Test.YtmblpmmnglmjfaaGreatDoorAgWBytes
import Derived.Test.YtmblpmmnglmjfaaGreatDoorAgFv
set_option linter.unusedVariables false
set_option linter.unusedSimpArgs false
namespace Go.Proofs.YtmblpmmnglmjfaaGreatDoor
open Go.RowKit

/-- A field's bytes. -/
def mshV : Fv → List UInt8
  | .n v => be4 v
  | .s l => strP l
  | .l ns => strP (commas ns)
  | .t b => [if b then 1 else 0]
  | .c l => l
  | .r l => l
def mshAll (vals : List Fv) : List UInt8 := vals.flatMap mshV
/-- A field of a message that is asked. -/
def FvOk : Fv → Prop
  | .n v => v < 4294967296
  | .s l => l.length ≤ 200
  | .l ns => ns.length ≤ 10 ∧ ∀ s ∈ ns, s.length ≤ 60
  | .t _ => True
  | .c l => l.length ≤ 16
  | .r l => l.length ≤ 500
theorem be4_length (n : Nat) : (be4 n).length = 4 := rfl
theorem strP_len_ (l : List UInt8) : (strP l).length = l.length + 4 := by simp [strP, be4]
theorem mshV_len {fv : Fv} (h : FvOk fv) : (mshV fv).length ≤ 1000 := by
  cases fv with
  | n v => simp [mshV, be4]
  | s l => simp only [mshV, strP_len_]; have : l.length ≤ 200 := h; omega
  | l ns =>
    simp only [mshV, strP_len_]
    have h1 := commas_le ns 60 h.2
    have h2 := Nat.mul_le_mul_right 61 h.1
    omega
  | t b => simp [mshV]
  | c l => show l.length ≤ _; have : l.length ≤ 16 := h; omega
  | r l => show l.length ≤ _; have : l.length ≤ 500 := h; omega
theorem mshAll_len : ∀ {vals : List Fv}, (∀ fv ∈ vals, FvOk fv) → (mshAll vals).length ≤ vals.length * 1000
  | [], _ => by simp [mshAll]
  | fv :: r, h => by
    have h1 := mshV_len (h fv (List.mem_cons_self ..))
    have h2 := mshAll_len (fun q hq => h q (List.mem_cons_of_mem fv hq))
    simp only [mshAll, List.flatMap_cons, List.length_append, List.length_cons, Nat.add_mul] at *
    omega
theorem mshAll_snoc (vals : List Fv) (fv : Fv) : mshAll (vals ++ [fv]) = mshAll vals ++ mshV fv := by simp [mshAll, List.flatMap_append]

/-- The state while the fields are written; b2: the row of fields. -/
structure MsSt (B : Nat) (W : World) (b2 : Nat) (cs2 : Array Value) (A : Option Addr) (c : Nat) (out : List UInt8) (w : World) : Prop where
  own : w.ownsRow B 5 1 (.slice A out.length c) out.length (out.map byteV)
  row : Blk w b2 20 cs2
  keep : Keep (fun b => b < B) W w
  lo : B ≤ W.heap.size
section
variable {B : Nat} {W w w' : World} {b2 : Nat} {cs2 : Array Value} {A : Option Addr} {c : Nat} {out : List UInt8}
theorem MsSt.size (h : MsSt B W b2 cs2 A c out w) : B ≤ w.heap.size := Nat.le_trans h.lo h.keep.size
theorem MsSt.own' (h : MsSt B W b2 cs2 A c out w) : w.ownsRow B 5 1 (.slice A out.length c) (out.map byteV).length (out.map byteV) := by rw [List.length_map]; exact h.own
theorem MsSt.below (h : MsSt B W b2 cs2 A c out w) (hb : Below w.heap.size w w') : MsSt B W b2 cs2 A c out w' :=
  ⟨own_move_ h.own (fun k hk => hb.block k (own_block_lt h.own hk).2), (hb.block b2 h.row.lt).trans h.row, h.keep.trans (Keep.of_below hb), h.lo⟩
theorem MsSt.drewN (h : MsSt B W b2 cs2 A c out w) (n : Nat) : MsSt B W b2 cs2 A c out (w.drewN n) := h.below ⟨rfl, rfl, rfl, Nat.le_refl _, fun _ _ => rfl⟩
theorem MsSt.alloc (h : MsSt B W b2 cs2 A c out w) (o : Obj) : MsSt B W b2 cs2 A c out (w.alloc o) := h.below ((Below.refl _ _).alloc (Nat.le_refl _) o)
/-- The row has grown. -/
theorem MsSt.grow (h : MsSt B W b2 cs2 A c out w) {A' : Option Addr} {c' : Nat} {out' : List UInt8} (hown : w'.ownsRow B 5 1 (.slice A' out'.length c') out'.length (out'.map byteV)) (hg : w.grownBy w' (Value.slice A out.length c).ownBlock) : MsSt B W b2 cs2 A' c' out' w' :=
  ⟨hown, (hg.block b2 h.row.lt (fun e => own_ne_blk h.own h.row (by decide) e.symm)).trans h.row, h.keep.grown hg (fun g hg hlt ho => by have := (own_block_lt h.own hg).1; omega), h.lo⟩
theorem MsSt.cell (h : MsSt B W b2 cs2 A c out w) {gp : Nat} (hgp : gp < B) {t : TypeId} {cs : Array Value} (hb : Blk W gp t cs) : Blk w gp t cs := hb.keep h.keep hgp
end
theorem AppEnd.any {B : Nat} {w : World} {v : Value} {l : List UInt8} {e : Ending} {w' : World} (h : AppEnd B w v l e w') : ∃ (o : List UInt8) (A' : Option Addr) (c' : Nat), Hid (o = l) ∧ e = .returned (.slice A' o.length c') ∧ w'.ownsRow B 5 1 (.slice A' o.length c') o.length (o.map byteV) ∧ w.grownBy w' v.ownBlock := by
  obtain ⟨A', c', h1, h2, h3⟩ := h
  exact ⟨l, A', c', rfl, h1, h2, h3⟩
theorem own_open {w : World} {B : Nat} {e : TypeId} {A : Option Addr} {n c : Nat} {xs : List Value} (h : w.ownsRow B e 1 (.slice A n c) n xs) (hn : 0 < n) : ∃ g cur, A = some ⟨g, 0, none⟩ ∧ Blk w g e cur ∧ cur.size = c ∧ n ≤ c := by
  rcases h.2 with ⟨_, h0⟩ | ⟨g, cap, cur, hv, h1, h2, h3, h4, h5, h6⟩
  · omega
  · injection hv with e1 e2 e3
    subst e1 e3
    exact ⟨g, cur, rfl, h2, by simpa using h5, h3⟩
theorem slice_from {P : Program} (t e : TypeId) {i : TypeInfo} (ht : P.underlying t = some (.slice e)) (hi : P.info? e = some i) (hsz : i.size = 1) (g n c m : Nat) (hm : m < n) (hc : n ≤ c) (W : World) :
    (Instr.slice t (.slice (some ⟨g, 0, none⟩) n c) (some (.int .i64 (m : Int))) none none).run P W = .ok (.slice (some ⟨g, m, none⟩) (n - m) (c - m)) W := by
  have hel : P.elem t = e := by simp [Program.elem, ht]
  have hu : P.underlying t = some (.slice (P.elem t)) := by rw [hel]; exact ht
  rw [run_slice_l W t _ n c hu .i64 (m : Int) (Int.natCast_nonneg _) (by omega), hel]
  have h1 : c ≠ m := by omega
  by_cases h0 : m = 0
  · subst h0; simp [sizeOf, typeInfo, hi, hsz, sliced, Result.andThen, Addr.add]
  · simp [sizeOf, typeInfo, hi, hsz, sliced, Result.andThen, Addr.add, h1, h0]
theorem push_own {w : World} {B : Nat} {A : Option Addr} {n c : Nat} {out : List UInt8} {x : UInt8} (h : w.ownsRow B 5 1 (.slice A n c) (out.map byteV ++ [byteV x]).length (out.map byteV ++ [byteV x])) (hn : n = (out ++ [x]).length) : w.ownsRow B 5 1 (.slice A (out ++ [x]).length c) (out ++ [x]).length ((out ++ [x]).map byteV) := by
  subst hn
  simpa using h
theorem app_own {w : World} {B : Nat} {A : Option Addr} {n c : Nat} {out l : List UInt8} (h : w.ownsRow B 5 1 (.slice A n c) (out.map byteV ++ l.map byteV).length (out.map byteV ++ l.map byteV)) (hn : n = (out ++ l).length) : w.ownsRow B 5 1 (.slice A (out ++ l).length c) (out ++ l).length ((out ++ l).map byteV) := by
  subst hn
  simpa using h
/-- Four bytes written over those behind `a`. -/
theorem put_own {w w' : World} {B g c : Nat} {a r : List UInt8} {z0 z1 z2 z3 : UInt8} {v : Nat} (h : w.ownsRow B 5 1 (.slice (some ⟨g, 0, none⟩) (a ++ [z0, z1, z2, z3] ++ r).length c) (a ++ [z0, z1, z2, z3] ++ r).length ((a ++ [z0, z1, z2, z3] ++ r).map byteV)) {cur : Array Value} (hb : Blk w g 5 cur)
    (hb' : Blk w' g 5 ((((cur.setIfInBounds a.length (byteV (UInt8.ofNat (v / 16777216)))).setIfInBounds (a.length + 1) (byteV (UInt8.ofNat (v / 65536)))).setIfInBounds (a.length + 2) (byteV (UInt8.ofNat (v / 256)))).setIfInBounds (a.length + 3) (byteV (UInt8.ofNat v)))) :
    w'.ownsRow B 5 1 (.slice (some ⟨g, 0, none⟩) (a ++ be4 v ++ r).length c) (a ++ be4 v ++ r).length ((a ++ be4 v ++ r).map byteV) := by
  have el : (a ++ be4 v ++ r).length = (a ++ [z0, z1, z2, z3] ++ r).length := by simp [be4]
  rw [el]
  refine ⟨by rw [List.length_map, el]; omega, ?_⟩
  rcases h.2 with ⟨hv, _⟩ | ⟨g', cap, cur', hv, h1, h2, h3, h4, h5, h6⟩
  · injection hv with e1; cases e1
  · injection hv with e1 e2 e3
    injection e1 with e1
    injection e1 with e1
    subst e1 e3
    have hcur : cur' = cur := by
      unfold Blk at hb
      rw [hb] at h2
      injection h2 with h2
      injection h2 with h2
      exact h2.symm
    subst hcur
    refine .inr ⟨g, c, _, rfl, h1, hb', h3, h4, by simpa using h5, ?_⟩
    rw [Nat.mul_one] at *
    simp only [Array.toList_setIfInBounds, List.take_set]
    rw [h6]
    simp [be4, List.set_append, List.set_cons_succ]

/-- How marshalling ends. -/
def MarEnd (B : Nat) (w : World) (l : List UInt8) (e : Ending) (w' : World) : Prop :=
  ∃ (A' : Option Addr) (c' : Nat), e = .returned (.slice A' l.length c') ∧ w'.ownsRow B 5 1 (.slice A' l.length c') l.length (l.map byteV) ∧ Below B w w'

set_option maxRecDepth 100000 in
set_option maxHeartbeats 1600000 in
theorem marshal_walk (B : Nat) (w0 : World) (T F gp num : Nat) (t : TypeId) (cs : Array Value) (L : List (UInt8 × Nat)) (vals : List Fv) (A : Option Addr) (c : Nat)
    (hnum : num < 256) (hgp : Blk w0 gp t cs) (hgpB : gp < B) (hB : B ≤ w0.heap.size) (hlen : vals.length = L.length) (hLl : L.length ≤ 100) (hgot : Got (fun b => b < B) w0 cs L vals) (hok : ∀ fv ∈ vals, FvOk fv)
    (hown : w0.ownsRow B 5 1 (.slice A 0 c) 0 [])
    (hme : ∀ W : World, (method 539 T (.pointer (some ⟨gp, 0, none⟩)) "ZzFields").run Tryz.prog W = .ok (F, .pointer (some ⟨gp, 0, none⟩)) W)
    (hcf : ∀ W : World, (callFunc F #[.pointer (some ⟨gp, 0, none⟩)]).run Tryz.prog W = .ok (.enter F #[.pointer (some ⟨gp, 0, none⟩)]) W)
    (hf : ∀ W, Calls Tryz.prog F #[.pointer (some ⟨gp, 0, none⟩)] W (FieldsEnd W gp num L)) :
    Calls Tryz.prog 44 #[.slice A 0 c, .iface T (.pointer (some ⟨gp, 0, none⟩))] w0 (MarEnd B w0 (UInt8.ofNat num :: mshAll vals)) := by
  have HF := Lib.hid hf
  have HBk := Lib.hid hgp
  have HG := Lib.hid hgot
  have HOK := Lib.hid hok
  have HOW := Lib.hid hown
  have HBs := Lib.hid hB
  have t1 := ta_bool
  have t2 := ta_arr
  have t3 := ta_u64
  have t4 := ta_u32
  have t5 := ta_u8
  have t6 := ta_str
  have t7 := ta_rest
  have t8 := ta_bytes
  have t9 := ta_strs
  clear hf hgp hgot hok hown hB
  go_enter Tryz.func44, Tryz.ntmps44
  go_wp2_with (first
    | (at_builtin; refine wpList_push rfl _ _ _ rfl B 5 (.int .u8 0) 1 Tryz.underlying26 info_u8 rfl (.slice A 0 c) [] rfl (HOW1.out.alloc _) _ (.int .u8 (num : Int)) rfl (Blk.new _ _ _) rfl (by simp) (by simp) (Nat.le_trans HBs1.out (by simp)) ?_; intro A1 c1 w2 hown2 hg2 hat2)
    | (refine (HF.out _).mono ?_; rintro e w1 ⟨b1, b2, rfl, hb1, hb2, hn1, hn2, hbl⟩; have hc1 : w1.cell? ⟨b1, 0, none⟩ = some (.int .u8 (num : Int)) := (by simpa using hb1.cell 0); have HBL := Lib.hid hbl; have HB2 := Lib.hid hb2; have HBs1 := Lib.hid (Nat.le_trans HBs.out hbl.size); have HOW1 := Lib.hid (own_move_ HOW.out (fun k hk => hbl.block k (own_block_lt HOW.out hk).2)); have hb1l := hb1.lt; clear hb1 hb2 hbl hn1 hn2))
  have e0 : (Value.int .u8 (num : Int)) = byteV (UInt8.ofNat num) := by unfold byteV; rw [ofNat_toNat]; congr 1; omega
  have hS1 : MsSt B w1 b2 (L.map fun q => fieldV gp q.1 q.2).toArray A c [] w1 := ⟨HOW1.out, HB2.out, Keep.refl _ _, HBs1.out⟩
  have hS2 : MsSt B w1 b2 (L.map fun q => fieldV gp q.1 q.2).toArray A1 c1 [UInt8.ofNat num] w2 := hS1.grow (by rw [e0] at hown2; exact push_own (out := []) hown2 rfl) (grownBy_trans (grownBy_alloc (grownBy_refl _ _) _) hg2)
  have hG1 : Got (fun b => b < B) w1 cs L vals := fun i fv q h1 h2 => (HG.out i fv q h1 h2).away (fun _ _ _ => rfl) (Keep.of_below HBL.out)
  have hK1 : Blk w1 gp t cs := (HBL.out.block gp HBk.out.lt).trans HBk.out
  have HS2 := Lib.hid hS2
  have HG1 := Lib.hid hG1
  have HK1 := Lib.hid hK1
  have HLen := Lib.hid hlen
  have HL0 := Lib.hid hLl
  have HBE := Lib.hid (show Below B w0 w1 from HBL.out.mono HBs.out)
  clear e0 hS1 hS2 hG1 hK1 hown2 hg2 hat2 hc1 HOW1 HBs1 HB2 HBL HBk HG hb1l HF HOW hlen
  go_loopg [0, 48] L.length (fun gk v0 v48 wr => ∃ (A2 : Option Addr) (c2 k : Nat) (out : List UInt8), v0 = .slice A2 out.length c2 ∧ v48 = .int .i64 (k : Int) ∧ k ≤ L.length ∧ Hid (k + gk = L.length) ∧ Hid (out = UInt8.ofNat num :: mshAll (vals.take k)) ∧
    Hid (MsSt B w1 b2 (L.map fun q => fieldV gp q.1 q.2).toArray A2 c2 out wr))
  case atStart => exact ⟨A1, c1, 0, [UInt8.ofNat num], rfl, rfl, by omega, by simp [Hid], rfl, HS2⟩
  case round =>
    clear HS2
    obtain ⟨A2, c2, k, out, rfl, rfl, hk, hgk, hout, HS⟩ := hrel
    have hol : out.length ≤ 200000 := by
      rw [hout.out, List.length_cons]
      have h1 := mshAll_len (vals := vals.take k) (fun fv hm => HOK.out fv (List.mem_of_mem_take hm))
      rw [List.length_take] at h1
      have := HLen.out
      have := HL0.out
      omega
    by_cases hlt : k < L.length
    · obtain ⟨⟨c0, off⟩, hq⟩ : ∃ q, L[k]? = some q := ⟨_, List.getElem?_eq_getElem hlt⟩
      obtain ⟨fv, hfv⟩ : ∃ fv, vals[k]? = some fv := ⟨_, List.getElem?_eq_getElem (by have := HLen.out; omega)⟩
      have hfc0 : wr.cell? ⟨b2, k, none⟩ = some (fieldV gp c0 off) := by
        rw [HS.out.row.cell k]
        simp [hq]
      have hblk := HS.out.cell hgpB HK1.out
      have HBW := Lib.hid hblk
      have hF1 := HG1.out k fv (c0, off) hfv hq
      have hF := hF1.away (fun _ _ _ => rfl) HS.out.keep
      have hc1 : wr.cell? ⟨gp, off, none⟩ = cs[off]? := hblk.cell off
      have hfok : FvOk fv := HOK.out fv (List.mem_of_getElem? hfv)
      have HM1 := Lib.hid (show out ++ mshV fv = UInt8.ofNat num :: mshAll (vals.take (k + 1)) by rw [hout.out, List.take_add_one, hfv]; simp [mshAll_snoc])
      have HOL := Lib.hid hol
      have HKK := Lib.hid hk
      have hgpl : gp < wr.heap.size := hblk.lt
      have HSZ := Lib.hid HS.out.size
      clear hblk hfv hq hout hol
      cases fv with
      | n v =>
        clear hF1
        obtain ⟨hc, hv⟩ := hF
        obtain rfl : c0 = 110 := hc
        have hfc : wr.cell? ⟨b2, k, none⟩ = some (.iface 176 (.pointer (some ⟨gp, off, none⟩))) := hfc0
        have hcv : wr.cell? ⟨gp, off, none⟩ = some (.int .u32 (v : Int)) := hc1.trans hv
        have HP := Lib.hid (appU32 B A2 c2 out v hfok wr (by have := HOL.out; omega) HSZ.out HS.out.own)
        clear hv hfc0 hc1
        go_wp2_with (go_at_call 54; refine HP.out.mono ?_; rintro e w3 ⟨A3, c3, rfl, hown3, hg3⟩; have HO3 := Lib.hid hown3; have HG3 := Lib.hid hg3; clear hown3 hg3)
        go_roundg (gk - 1)
        case measure => have := hgk.out; omega
        case rel =>
          have hg := hgk.out
          exact ⟨A3, c3, k + 1, out ++ be4 v, by first | rfl | simp, by go_num, by omega, show _ = _ by omega, HM1, HS.out.grow HO3.out HG3.out⟩
      | s l =>
        clear hF1
        obtain ⟨hc, hv⟩ := hF
        obtain rfl : c0 = 115 := hc
        have hfc : wr.cell? ⟨b2, k, none⟩ = some (.iface 180 (.pointer (some ⟨gp, off, none⟩))) := hfc0
        have hcv : wr.cell? ⟨gp, off, none⟩ = some (.string ⟨l.toArray⟩) := hc1.trans hv
        have hl200 : l.length ≤ 200 := hfok
        have HP := Lib.hid (appInt B A2 c2 out l.length (by omega) wr (by have := HOL.out; omega) HSZ.out HS.out.own)
        have HL2 := Lib.hid hl200
        have e4 : l.length % 4294967296 = l.length := by omega
        have HE4 := Lib.hid e4
        clear hv hfc0 hc1 e4
        have hol3 : ∀ o : List UInt8, Hid (o = out ++ be4 l.length) → o.length ≤ 200004 := fun o h => by rw [h.out]; have := HOL.out; simp [be4]; omega
        go_wp2_with (first
          | (go_at_call 56; refine HP.out.mono ?_; intro e w3 hae; obtain ⟨o3, A3, c3, ho3, rfl, hown3, hg3⟩ := hae.any; have HS3 := Lib.hid (HS.out.grow hown3 hg3); clear hown3 hg3 hae)
          | (at_builtin; refine wpList_append_str rfl _ _ 26 9 rfl B 5 Tryz.underlying26 Tryz.underlying9 info_u8 (.slice A3 o3.length c3) (o3.map byteV) rfl HS3.out.own' l rfl (by have := hol3 o3 ho3; have := HL2.out; rw [List.length_map]; omega) HS3.out.size ?_; intro A4 c4 w4 hown4 hg4; have HS4 := Lib.hid (HS3.out.grow (out' := o3 ++ l) (app_own hown4 (by simp)) hg4); clear hown4 hg4))
        go_roundg (gk - 1)
        case measure => have := hgk.out; omega
        case rel =>
          have hg := hgk.out
          have em : o3 ++ l = out ++ mshV (.s l) := by rw [ho3.out]; simp [mshV, strP, HE4.out]
          exact ⟨A4, c4, k + 1, o3 ++ l, by simp, by go_num, by omega, show _ = _ by omega, show _ = _ from em.trans HM1.out, HS4⟩
      | l ns =>
        clear hF
        obtain ⟨hc, u, hv, A5, c5, hu, hc5, hm5, hr5⟩ := hF1
        obtain rfl : c0 = 108 := hc
        subst hu
        have hfc : wr.cell? ⟨b2, k, none⟩ = some (.iface 186 (.pointer (some ⟨gp, off, none⟩))) := hfc0
        have hcv : wr.cell? ⟨gp, off, none⟩ = some (.slice A5 ns.length c5) := hc1.trans hv
        have HV5 := Lib.hid hv
        have HR5 := Lib.hid hr5
        obtain ⟨hnl, hns60⟩ := hfok
        have HN60 := Lib.hid hns60
        have HP := Lib.hid (show Calls Tryz.prog 54 #[.slice A2 out.length c2, .int .u32 0] wr _ from appU32 B A2 c2 out 0 (by decide) wr (by have := HOL.out; omega) HSZ.out HS.out.own)
        clear hv hfc0 hc1 hr5 hns60
        by_cases hns : ns = []
        · subst hns
          go_wp2_with (go_at_call 54; refine HP.out.mono ?_; intro e w3 hae; obtain ⟨o3, A3, c3, ho3, rfl, hown3, hg3⟩ := hae.any; have HS3 := Lib.hid (HS.out.grow hown3 hg3); have hcv3 : w3.cell? ⟨gp, off, none⟩ = some (.slice A5 0 c5) := ((HS3.out.cell hgpB HK1.out).cell off).trans HV5.out; clear hown3 hg3 hae)
          go_roundg (gk - 1)
          case measure => have := hgk.out; omega
          case rel =>
            have hg := hgk.out
            have em : o3 = out ++ mshV (.l []) := by rw [ho3.out]; simp [mshV, strP, commas, commaTo]
            exact ⟨A3, c3, k + 1, o3, rfl, by go_num, by omega, show _ = _ by omega, show _ = _ from em.trans HM1.out, HS3⟩
        · have hpos : 0 < ns.length := List.length_pos_iff.2 hns
          have d1 : (0 < (ns.length : Int)) = True := eq_true (by omega)
          have d2 : (0 < ns.length) = True := eq_true hpos
          clear hns hpos
          go_wp2_with (go_at_call 54; refine HP.out.mono ?_; intro e w3 hae; obtain ⟨o3, A3, c3, ho3, rfl, hown3, hg3⟩ := hae.any; have HS3 := Lib.hid (HS.out.grow hown3 hg3); have hcv3 : w3.cell? ⟨gp, off, none⟩ = some (.slice A5 ns.length c5) := ((HS3.out.cell hgpB HK1.out).cell off).trans HV5.out; clear hown3 hg3 hae)
          have HO3 := Lib.hid (show o3.length ≤ 200004 by rw [ho3.out, List.length_append, be4_length]; have := HOL.out; omega)
          clear hcv3 d1 d2 hcv hfc hgpl
          obtain ⟨go, rfl⟩ : ∃ go, go = gk := ⟨_, rfl⟩
          obtain ⟨wo, rfl⟩ : ∃ wo, wo = wr := ⟨_, rfl⟩
          go_loopg [0, 24] ns.length (fun gk v0 v24 wr => ∃ (A4 : Option Addr) (c4 j : Nat) (o4 : List UInt8), v0 = .slice A4 o4.length c4 ∧ v24 = .int .i64 (j : Int) ∧ j ≤ ns.length ∧ Hid (j + gk = ns.length) ∧ Hid (o4 = o3 ++ commas (ns.take j)) ∧ Hid (MsSt B w1 b2 (L.map fun q => fieldV gp q.1 q.2).toArray A4 c4 o4 wr))
          case atStart => exact ⟨A3, c3, 0, o3, rfl, rfl, by omega, by simp [Hid], by simp [Hid, commas, commaTo], HS3⟩
          case round =>
            clear HS3
            obtain ⟨A4, c4, j, o4, rfl, rfl, hj, hgj, ho4, HS4⟩ := hrel
            have hcv4 : wr.cell? ⟨gp, off, none⟩ = some (.slice A5 ns.length c5) := ((HS4.out.cell hgpB HK1.out).cell off).trans HV5.out
            have hcml : ∀ m, (commas (ns.take m)).length ≤ 610 := fun m => by
              have h1 := commas_le (ns.take m) 60 (fun s hs => HN60.out s (List.mem_of_mem_take hs))
              have h2 : (ns.take m).length ≤ 10 := by rw [List.length_take]; omega
              have := Nat.mul_le_mul_right 61 h2
              omega
            have HO4 := Lib.hid (show o4.length ≤ 200700 by rw [ho4.out, List.length_append]; have := HO3.out; have := hcml j; omega)
            have HCM := Lib.hid hcml
            clear hcml
            by_cases hlj : j < ns.length
            · obtain ⟨x, hx⟩ : ∃ x, ns[j]? = some x := ⟨_, List.getElem?_eq_getElem hlj⟩
              obtain ⟨ad, v, rfl, _, hcx, rfl⟩ := (RR.keep HR5.out (lit_steady _) HS4.out.keep) j x hx
              have hcx1 : wr.cell? (ad.add j) = some (.string ⟨x.toArray⟩) := hcx
              have hcs : commas (ns.take (j + 1)) = (if 0 < j then commas (ns.take j) ++ [44] else commas (ns.take j)) ++ x := by
                rw [List.take_add_one, hx]
                have := commas_snoc (ns.take j) x
                rw [show (ns.take j).length = j by rw [List.length_take]; omega] at this
                exact this
              have HC := Lib.hid hcs
              have HXL := Lib.hid (HN60.out x (List.mem_of_getElem? hx))
              clear hx hcx hcs
              by_cases hj0 : j = 0
              · subst hj0
                have hcx2 : wr.cell? ad = some (.string ⟨x.toArray⟩) := hcx1
                clear hcx1
                go_wp2_with (at_builtin; refine wpList_append_str rfl _ _ 26 9 rfl B 5 Tryz.underlying26 Tryz.underlying9 info_u8 (.slice A4 o4.length c4) (o4.map byteV) rfl HS4.out.own' x rfl (by have := HO4.out; have := HXL.out; rw [List.length_map]; omega) HS4.out.size ?_; intro A6 c6 w6 hown6 hg6; have HS6 := Lib.hid (HS4.out.grow (out' := o4 ++ x) (app_own hown6 (by simp)) hg6); clear hown6 hg6)
                go_roundg (gk - 1)
                case measure => have := hgj.out; omega
                case rel =>
                  have hg := hgj.out
                  exact ⟨A6, c6, 0 + 1, o4 ++ x, by simp, by go_num, by omega, show _ = _ by omega, show _ = _ by rw [HC.out, ho4.out]; simp, HS6⟩
              · have hj1 : 0 < j := by omega
                have HJ := Lib.hid hj1
                clear hj1
                go_wp2_with (first
                  | (at_builtin; refine wpList_append_str rfl _ _ 26 9 rfl B 5 Tryz.underlying26 Tryz.underlying9 info_u8 (.slice A7 o7.length c7) (o7.map byteV) rfl HS7.out.own' x rfl (by have := HO4.out; have := HXL.out; rw [List.length_map]; rw [HO7.out, List.length_append, List.length_singleton]; omega) HS7.out.size ?_; intro A6 c6 w6 hown6 hg6; have HS6 := Lib.hid (HS7.out.grow (out' := o7 ++ x) (app_own hown6 (by simp)) hg6); clear hown6 hg6)
                  | (at_builtin; refine wpList_push rfl _ _ _ rfl B 5 (.int .u8 0) 1 Tryz.underlying26 info_u8 rfl (.slice A4 o4.length c4) (o4.map byteV) rfl (HS4.out.alloc _).own' _ (byteV 44) rfl (Blk.new _ _ _) rfl (by have := HO4.out; rw [List.length_map]; omega) (by have := HO4.out; rw [List.length_map]; omega) (HS4.out.alloc _).size ?_; intro A7 c7 w7 hown7 hg7 hat7; obtain ⟨o7, ho7⟩ : ∃ o, o = o4 ++ [44] := ⟨_, rfl⟩; have hown8 := push_own hown7 (by simp); rw [← ho7] at hown8; have el7 : o4.length + 1 = o7.length := (by rw [ho7]; simp); rw [List.length_map]; rw [el7]; have HS7 := Lib.hid ((HS4.out.alloc _).grow (out' := o7) hown8 hg7); have HO7 := Lib.hid ho7; clear hown7 hown8 hg7 hat7 el7 ho7))
                go_roundg (gk - 1)
                case measure => have := hgj.out; omega
                case rel =>
                  have hg := hgj.out
                  exact ⟨A6, c6, j + 1, o7 ++ x, by simp, by go_num, by omega, show _ = _ by omega, show _ = _ by rw [HC.out, if_pos HJ.out, HO7.out, ho4.out]; simp, HS6⟩
            · have hje : j = ns.length := by omega
              subst hje
              obtain ⟨g, cur, rfl, hcur, hcs4, hle4⟩ := own_open HS4.out.own (by rw [ho4.out, ho3.out]; simp [be4]; omega)
              obtain ⟨cm, hcm⟩ : ∃ cm, cm = commas ns := ⟨_, rfl⟩
              have ho4e : o4 = out ++ [0, 0, 0, 0] ++ cm := by rw [ho4.out, ho3.out, List.take_length, hcm]; rfl
              have hcml : cm.length ≤ 610 := by have := HCM.out ns.length; rw [List.take_length] at this; rw [hcm]; exact this
              have hl4 : o4.length = out.length + 4 + cm.length := by rw [ho4e]; simp; omega
              obtain ⟨i0, hi0, _, hsz, _⟩ := info_parts info_u8
              have hsl : ∀ W : World, (Instr.slice 26 (.slice (some ⟨g, 0, none⟩) o4.length c4) (some (.int .i64 (out.length : Int))) none none).run Tryz.prog W = .ok (.slice (some ⟨g, out.length, none⟩) (o4.length - out.length) (c4 - out.length)) W := fun W => slice_from 26 5 Tryz.underlying26 hi0 hsz g o4.length c4 out.length (by omega) hle4 W
              have hob4 : o4.length ≤ 200700 := HO4.out
              have hob : out.length ≤ 200000 := HOL.out
              have HWr := Lib.hid (show IntKind.u32.wrap (IntKind.i64.wrap (IntKind.i64.wrap ((o4.length : Int) - (out.length : Int)) - 4)) = (cm.length : Int) by
                rw [show IntKind.i64.wrap ((o4.length : Int) - (out.length : Int)) = (o4.length : Int) - (out.length : Int) by rw [IntKind.wrap_i64]; omega]
                rw [show IntKind.i64.wrap ((o4.length : Int) - (out.length : Int) - 4) = (cm.length : Int) by rw [IntKind.wrap_i64]; omega]
                rw [IntKind.wrap_u32']; omega)
              have HPut := Lib.hid (show ∀ W : World, Blk W g 5 cur → _ from fun W hb => put32 g out.length (o4.length - out.length) (c4 - out.length) cm.length (by omega) (by omega) (by omega) W 5 cur hb (by omega))
              have HCur := Lib.hid hcur
              have HE4 := Lib.hid ho4e
              have HCMM := Lib.hid hcm
              have HL4 := Lib.hid hl4
              clear hcur hcs4 hle4 hcm ho4e hcml hl4 hi0 hsz hj hgj hlj
              go_wp2_with fail
              go_region_law (go_simp; go_at_call 33; rw [HWr.out]; refine (HPut.out _ HCur.out.drew).mono ?_; rintro e w8 ⟨rfl, hb8, hg8⟩; have HB8 := Lib.hid hb8; have HG8 := Lib.hid hg8; clear hb8 hg8)
              all_goals
                go_wp2_with fail
                go_roundg (go - 1)
                case measure => have := hgk.out; omega
                case rel =>
                  have hg := hgk.out
                  have hown4 := HS4.out.own
                  rw [HE4.out] at hown4
                  have hown8 := put_own hown4 HCur.out HB8.out
                  have hlen8 : (out ++ be4 cm.length ++ cm).length = o4.length := by rw [HE4.out]; simp [be4]
                  have hcm2 := HCMM.out
                  have em : out ++ be4 cm.length ++ cm = out ++ mshV (.l ns) := by
                    have h2 : cm.length % 4294967296 = cm.length := by have := HL4.out; omega
                    simp [mshV, strP, ← hcm2, h2]
                  exact ⟨some ⟨g, 0, none⟩, c4, k + 1, out ++ be4 cm.length ++ cm, by rw [hlen8], by go_num, by omega, show _ = _ by omega, show _ = _ from em.trans HM1.out, (HS4.out.drewN 1).grow hown8 HG8.out⟩
      | t b =>
        clear hF1
        obtain ⟨hc, hv⟩ := hF
        obtain rfl : c0 = 116 := hc
        have hfc : wr.cell? ⟨b2, k, none⟩ = some (.iface 170 (.pointer (some ⟨gp, off, none⟩))) := hfc0
        have hcv : wr.cell? ⟨gp, off, none⟩ = some (.bool b) := hc1.trans hv
        clear hv hfc0 hc1
        cases b
        · go_wp2_with (at_builtin; refine wpList_push rfl _ _ _ rfl B 5 (.int .u8 0) 1 Tryz.underlying26 info_u8 rfl (.slice A2 out.length c2) (out.map byteV) rfl (HS.out.alloc _).own' _ (byteV 0) rfl (Blk.new _ _ _) rfl (by have := HOL.out; rw [List.length_map]; omega) (by have := HOL.out; rw [List.length_map]; omega) (HS.out.alloc _).size ?_; intro A3 c3 w3 hown3 hg3 hat3; have HS3 := Lib.hid ((HS.out.alloc _).grow (out' := out ++ [0]) (push_own hown3 (by simp)) hg3); clear hown3 hg3 hat3)
          go_roundg (gk - 1)
          case measure => have := hgk.out; omega
          case rel =>
            have hg := hgk.out
            exact ⟨A3, c3, k + 1, out ++ [0], by simp, by go_num, by omega, show _ = _ by omega, HM1, HS3⟩
        · go_wp2_with (at_builtin; refine wpList_push rfl _ _ _ rfl B 5 (.int .u8 0) 1 Tryz.underlying26 info_u8 rfl (.slice A2 out.length c2) (out.map byteV) rfl (HS.out.alloc _).own' _ (byteV 1) rfl (Blk.new _ _ _) rfl (by have := HOL.out; rw [List.length_map]; omega) (by have := HOL.out; rw [List.length_map]; omega) (HS.out.alloc _).size ?_; intro A3 c3 w3 hown3 hg3 hat3; have HS3 := Lib.hid ((HS.out.alloc _).grow (out' := out ++ [1]) (push_own hown3 (by simp)) hg3); clear hown3 hg3 hat3)
          go_roundg (gk - 1)
          case measure => have := hgk.out; omega
          case rel =>
            have hg := hgk.out
            exact ⟨A3, c3, k + 1, out ++ [1], by simp, by go_num, by omega, show _ = _ by omega, HM1, HS3⟩
      | c l =>
        clear hF1
        obtain ⟨hc, hl16, hcs⟩ := hF
        obtain rfl : c0 = 99 := hc
        have hfc : wr.cell? ⟨b2, k, none⟩ = some (.iface 172 (.pointer (some ⟨gp, off, none⟩))) := hfc0
        have HCS := Lib.hid hcs
        have H16 := Lib.hid hl16
        clear hcs hl16 hfc0 hc1 hfok
        go_wp2_with fail
        obtain ⟨go, rfl⟩ : ∃ go, go = gk := ⟨_, rfl⟩
        obtain ⟨wo, rfl⟩ : ∃ wo, wo = wr := ⟨_, rfl⟩
        go_loopg [0, 12] 16 (fun gk v0 v12 wr => ∃ (A4 : Option Addr) (c4 j : Nat) (o4 : List UInt8), v0 = .slice A4 o4.length c4 ∧ v12 = .int .i64 (j : Int) ∧ j ≤ 16 ∧ Hid (j + gk = 16) ∧ Hid (o4 = out ++ l.take j) ∧ Hid (MsSt B w1 b2 (L.map fun q => fieldV gp q.1 q.2).toArray A4 c4 o4 wr))
        case atStart => exact ⟨A2, c2, 0, out, rfl, rfl, by omega, by simp [Hid], by simp [Hid], HS⟩
        case round =>
          obtain ⟨A4, c4, j, o4, rfl, rfl, hj, hgj, ho4, HS4⟩ := hrel
          by_cases hlj : j < 16
          · obtain ⟨y, hy⟩ : ∃ y, l[j]? = some y := ⟨_, List.getElem?_eq_getElem (by have := H16.out; omega)⟩
            have hcy : wr.cell? ⟨gp, off + j, none⟩ = some (.int .u8 (y.toNat : Int)) := ((HS4.out.cell hgpB HK1.out).cell (off + j)).trans (HCS.out j y hy)
            have hol4 : o4.length ≤ 200100 := by rw [ho4.out, List.length_append, List.length_take]; have := HOL.out; omega
            have HO4 := Lib.hid hol4
            have HY := Lib.hid hy
            have hgpl2 := blk_lt_of_cell hcy
            clear hy hol4
            go_wp2_with (at_builtin; refine wpList_push rfl _ _ _ rfl B 5 (.int .u8 0) 1 Tryz.underlying26 info_u8 rfl (.slice A4 o4.length c4) (o4.map byteV) rfl (HS4.out.alloc _).own' _ (byteV y) rfl (Blk.new _ _ _) rfl (by have := HO4.out; rw [List.length_map]; omega) (by have := HO4.out; rw [List.length_map]; omega) (HS4.out.alloc _).size ?_; intro A3 c3 w3 hown3 hg3 hat3; have HS3 := Lib.hid ((HS4.out.alloc _).grow (out' := o4 ++ [y]) (push_own hown3 (by simp)) hg3); clear hown3 hg3 hat3)
            go_roundg (gk - 1)
            case measure => have := hgj.out; omega
            case rel =>
              have hg := hgj.out
              exact ⟨A3, c3, j + 1, o4 ++ [y], by simp, by go_num, by omega, show _ = _ by omega, show _ = _ by rw [ho4.out, List.take_add_one, HY.out]; simp, HS3⟩
          · have hje : j = 16 := by omega
            subst hje
            go_wp2_with fail
            go_roundg (go - 1)
            case measure => have := hgk.out; omega
            case rel =>
              have hg := hgk.out
              have em : o4 = out ++ mshV (.c l) := by rw [ho4.out, List.take_of_length_le (by rw [H16.out]; exact Nat.le_refl _)]; rfl
              exact ⟨A4, c4, k + 1, o4, rfl, by go_num, by omega, show _ = _ by omega, show _ = _ from em.trans HM1.out, HS4⟩
      | r l =>
        clear hF1
        obtain ⟨hc, u, hv, A5, c5, hu, hc5, hm5, hr5⟩ := hF
        obtain rfl : c0 = 114 := hc
        subst hu
        have hfc : wr.cell? ⟨b2, k, none⟩ = some (.iface 185 (.agg #[.pointer (some ⟨gp, off, none⟩)])) := hfc0
        have hcv : wr.cell? ⟨gp, off, none⟩ = some (.slice A5 l.length c5) := hc1.trans hv
        have HR5 := Lib.hid hr5
        have HL5 := Lib.hid (show l.length ≤ 500 from hfok)
        clear hv hfc0 hc1 hr5
        go_wp2_with (at_builtin; refine wpList_append_RR rfl _ _ _ rfl B 5 (.int .u8 0) 1 Tryz.underlying26 info_u8 rfl (.slice A2 out.length c2) (out.map byteV) rfl (HS.out.alloc _).own' byteV byteV_one A5 c5 l rfl (RR.keep HR5.out (lit_steady _) ((Keep.refl _ wr).alloc _)) (by have := HOL.out; have := HL5.out; rw [List.length_map]; omega) (by have := HOL.out; have := HL5.out; rw [List.length_map]; omega) (HS.out.alloc _).size ?_; intro A3 c3 w3 hown3 hg3 hat3; have HS3 := Lib.hid ((HS.out.alloc _).grow (out' := out ++ l) (app_own hown3 (by simp)) hg3); clear hown3 hg3 hat3)
        go_roundg (gk - 1)
        case measure => have := hgk.out; omega
        case rel =>
          have hg := hgk.out
          exact ⟨A3, c3, k + 1, out ++ l, by simp, by go_num, by omega, show _ = _ by omega, HM1, HS3⟩
    · have hke : k = L.length := by omega
      have hfin : out = UInt8.ofNat num :: mshAll vals := by
        rw [hout.out, hke, ← HLen.out, List.take_length]
      have HFin := Lib.hid hfin
      subst hke
      clear hfin hout
      go_wp2_with fail
      go_ret
      rw [HFin.out] at HS
      have h9 := HS.out.keep
      exact ⟨A2, c2, by rw [HFin.out]; rfl, HS.out.own, HBE.out.trans ⟨h9.os, h9.tape, h9.output, h9.size, fun b hb => h9.block b (Nat.lt_of_lt_of_le hb HS.out.lo) hb⟩⟩

end Go.Proofs.YtmblpmmnglmjfaaGreatDoor
