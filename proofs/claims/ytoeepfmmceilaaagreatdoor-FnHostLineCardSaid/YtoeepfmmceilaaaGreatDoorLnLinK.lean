/- strings.Join at this program (the laying printed by the kit's own tool); base64's EncodeToString; knownhosts.serialize. -/
import Derived.Test.YtoeepfmmceilaaaGreatDoorLnMak
import Derived.Shelf.Strings.OnBuilder
import Derived.Test.YtoeepfmmceilaaaGreatDoorLnFnN
set_option linter.unusedVariables false
set_option linter.unusedSimpArgs false
namespace Go.Proofs.YtoeepfmmceilaaaGreatDoor
open Go.RowKit
open Go.Shelf
def Tryz.lays156_ren : Go.Shelf.Ren := ⟨fun | 156 => 72 | 165 => 103 | 166 => 104 | 169 => 105 | 240 => 135 | 241 => 136 | 276 => 151 | 277 => 99 | n => n, fun | 31 => 27 | 9 => 9 | 3 => 3 | 4 => 4 | 0 => 0 | 20 => 20 | 72 => 158 | 76 => 117 | 70 => 156 | 37 => 28 | 75 => 67 | 127 => 198 | 164 => 241 | 5 => 5 | 80 => 97 | n => n, fun | n => n⟩
theorem Tryz.lays156 : Lays.n156 Tryz.prog Tryz.lays156_ren := {
  mixed := by kernel_rfl
  f156 := Tryz.func72.trans (congrArg some (by kernel_rfl))
  f165 := Tryz.func103.trans (congrArg some (by kernel_rfl))
  f166 := Tryz.func104.trans (congrArg some (by kernel_rfl))
  f169 := Tryz.func105.trans (congrArg some (by kernel_rfl))
  f240 := Tryz.func135.trans (congrArg some (by kernel_rfl))
  f241 := Tryz.func136.trans (congrArg some (by kernel_rfl))
  f276 := Tryz.func151.trans (congrArg some (by kernel_rfl))
  f277 := Tryz.func99.trans (congrArg some (by kernel_rfl))
  t0 := Tryz.underlying0
  a0 := Tryz.isAgg0
  z0 := Tryz.sizeOf0
  v0 := Tryz.zeroValue0
  t3 := Tryz.underlying3
  a3 := Tryz.isAgg3
  z3 := Tryz.sizeOf3
  v3 := Tryz.zeroValue3
  t4 := Tryz.underlying4
  a4 := Tryz.isAgg4
  z4 := Tryz.sizeOf4
  v4 := Tryz.zeroValue4
  t9 := Tryz.underlying9
  a9 := Tryz.isAgg9
  z9 := Tryz.sizeOf9
  v9 := Tryz.zeroValue9
  t20 := Tryz.underlying20
  a20 := Tryz.isAgg20
  z20 := Tryz.sizeOf20
  v20 := Tryz.zeroValue20
  t31 := Tryz.underlying27
  a31 := Tryz.isAgg27
  z31 := Tryz.sizeOf27
  v31 := Tryz.zeroValue27
  t37 := Tryz.underlying28
  a37 := Tryz.isAgg28
  z37 := Tryz.sizeOf28
  v37 := Tryz.zeroValue28
  t70 := Tryz.underlying156
  a70 := Tryz.isAgg156
  z70 := Tryz.sizeOf156
  v70 := Tryz.zeroValue156
  t72 := Tryz.underlying158
  a72 := Tryz.isAgg158
  z72 := Tryz.sizeOf158
  v72 := Tryz.zeroValue158
  t75 := Tryz.underlying67
  a75 := Tryz.isAgg67
  z75 := Tryz.sizeOf67
  v75 := Tryz.zeroValue67
  t76 := Tryz.underlying117
  a76 := Tryz.isAgg117
  z76 := Tryz.sizeOf117
  v76 := Tryz.zeroValue117
  t127 := Tryz.underlying198
  a127 := Tryz.isAgg198
  z127 := Tryz.sizeOf198
  v127 := Tryz.zeroValue198
  t164 := Tryz.underlying241
  a164 := Tryz.isAgg241
  z164 := Tryz.sizeOf241
  v164 := Tryz.zeroValue241 }
theorem Tryz.extra156 : Builder.Extra Tryz.prog Tryz.lays156_ren := {
  sizeBuilder := by kernel_rfl
  liesBuilder := by kernel_rfl
  t5 := Tryz.underlying5
  a5 := Tryz.isAgg5
  z5 := Tryz.sizeOf5
  v5 := Tryz.zeroValue5
  infoByte := by kernel_rfl
  cellsByte := by kernel_rfl
  sizeByte := by kernel_rfl
  neB5 := by decide }
/-- Texts with commas between. -/
def joinP : List (List UInt8) → List UInt8
  | [] => []
  | x :: r => x ++ (r.map (44 :: ·)).flatten
theorem join_eq : ∀ l : List (List UInt8), Lib.join l [44] = joinP l
  | [] => rfl
  | x :: r => by
    rw [Lib.join_cons]
    rfl
theorem join_walk (A : Option Addr) (c : Nat) (ls : List (List UInt8)) (w : World) (hc : ls.length ≤ c) (hl : (joinP ls).length ≤ 1000000) (hn : ls.length ≤ 1000) (hr : RR (lit strV) (fun b => b < w.heap.size) w A ls) :
    Calls Tryz.prog 72 #[.slice A ls.length c, .string ⟨#[44]⟩] w fun e w' => e = .returned (.string ⟨(joinP ls).toArray⟩) ∧ Below w.heap.size w w' := by
  by_cases h0 : ls = []
  · subst h0
    refine (Any.strings_Join_none Tryz.lays156 Tryz.extra156 A c ⟨#[44]⟩ w).mono ?_
    rintro e w' ⟨rfl, rfl⟩
    exact ⟨rfl, Below.refl _ _⟩
  · have hp : 0 < ls.length := List.length_pos_iff.2 h0
    obtain ⟨ad, rfl, ho, hcc⟩ := hr.addr hp
    have hcl : ∀ (j : Nat) x, ls[j]? = some x → w.cell? (ad.add j) = some (.string ⟨x.toArray⟩) := fun j x hj => by
      obtain ⟨v, h1, h2⟩ := hcc j x hj
      rw [h1, show v = strV x from h2]
      rfl
    have hs : ad.spot = none := by
      have h1 := spot_none (hcl 0 ls[0] (List.getElem?_eq_getElem hp))
      unfold Addr.add at h1
      rw [if_pos rfl] at h1
      exact h1
    obtain ⟨bk, o, sp⟩ := ad
    obtain rfl : sp = none := hs
    have e1 : (ls.map (fun l : List UInt8 => (⟨l.toArray⟩ : ByteArray))).map (·.data.toList) = ls := by
      rw [List.map_map]
      conv => rhs; rw [← List.map_id ls]
      apply List.map_congr_left
      intro x _
      simp
    have hJ := Any.strings_Join Tryz.lays156 Tryz.extra156 bk o c (ls.map fun l => ⟨l.toArray⟩) ⟨#[44]⟩ w (fun j x hj => by
      rw [List.getElem?_map] at hj
      obtain ⟨y, hy, rfl⟩ := Option.map_eq_some_iff.1 hj
      have h1 := hcl j y hy
      rw [Lib.addr_add] at h1
      exact h1) ho (by rw [List.length_map]; omega) (by rw [List.length_map]; exact hc) (by rw [e1, show (⟨#[44]⟩ : ByteArray).data.toList = [44] from rfl, join_eq]; omega)
    rw [e1, show (⟨#[44]⟩ : ByteArray).data.toList = [44] from rfl, join_eq, List.length_map] at hJ
    exact hJ

theorem kzzB64_walk (w : World) : Calls Tryz.prog 106 #[] w fun e w' => e = .returned (.pointer (some ⟨w.heap.size, 0, none⟩)) ∧ Blk w' w.heap.size 177 encC ∧ Below w.heap.size w w' := by
  have H := Lib.hid (newEnc_walk w)
  go_enter Tryz.func106, Tryz.ntmps106
  go_wp2_with (go_at_call 110; refine H.out.mono ?_; rintro e w1 ⟨rfl, h1, h2⟩; have H1 := Lib.hid h1; have H2 := Lib.hid h2; clear h1 h2)
  go_ret
  exact ⟨rfl, H1.out, H2.out⟩

set_option maxRecDepth 100000 in
set_option maxHeartbeats 1600000 in
theorem encStr_walk (A : Option Addr) (c ge : Nat) (xs : List UInt8) (w : World) (hb : Blk w ge 177 encC) (hl : xs.length ≤ 10000) (hc : xs.length ≤ c) (hr : RR (lit byteV) (fun b => b < w.heap.size) w A xs) :
    Calls Tryz.prog 107 #[.pointer (some ⟨ge, 0, none⟩), .slice A xs.length c] w fun e w' => e = .returned (.string ⟨(b64P xs).toArray⟩) ∧ Below w.heap.size w w' := by
  have hbl := b64P_len xs
  obtain ⟨m, hm⟩ : ∃ m, m = (xs.length + 2) / 3 * 4 := ⟨_, rfl⟩
  rw [← hm] at hbl
  have HEL := Lib.hid (encodedLen_walk w ge xs.length (by omega) hb)
  rw [← hm] at HEL
  have hmk : ∀ W : World, (Instr.makeSlice 28 (.int .i64 (m : Int)) (.int .i64 (m : Int))).run Tryz.prog W = .ok (.slice (some ⟨W.heap.size, 0, none⟩) m m) (W.alloc (.cells (zeros m) 5)) := fun W => run_make_bytes Tryz.underlying28 info_u8 m (by omega) W
  have hzs : (zeros m).size = m := by unfold zeros; exact size_madeCells _ _
  have hb1 : Below w.heap.size w (w.alloc (.cells (zeros m) 5)) := (Below.refl _ _).alloc (Nat.le_refl _) _
  have HEN := Lib.hid (encode_walk ge w.heap.size 0 m m 5 (zeros m) A c xs (w.alloc (.cells (zeros m) 5)) (by omega) hc ((hb1.block ge hb.lt).trans hb) (Blk.new _ _ _) (Nat.ne_of_lt hb.lt) (by omega) (Nat.le_refl _) (by omega) (by omega)
    (fun W cs' h1 h2 h3 h4 => (hr.keep (lit_steady _) ((Keep.of_below (ok := fun b => b < w.heap.size) hb1).trans (h4.mono fun b _ hb => Nat.ne_of_lt hb))).mono (lit_steady _) (fun _ _ _ => trivial)))
  have HB := Lib.hid hb1
  have HZ := Lib.hid hbl
  clear hb hl hc hr hbl hm hzs hb1
  go_enter Tryz.func107, Tryz.ntmps107
  go_wp2_with (first
    | (go_at_call 137; refine HEL.out.mono ?_; rintro e w9 ⟨rfl, hw⟩; have hw := hw.symm; subst hw)
    | (go_at_call 138; refine HEN.out.mono ?_; rintro e w2 ⟨rfl, cs2, h1, h2, h3⟩; have hcv := run_to_string (P := Tryz.prog) Tryz.underlying28 Tryz.underlying5 Tryz.underlying9 m (RR_blk (ok := all_) (xs := b64P xs) 0 h1 trivial h2.put); rw [HZ.out] at hcv; have H3 := Lib.hid h3; clear h1 h2 h3))
  go_ret
  exact ⟨rfl, HB.out.trans (below_but H3.out HB.out.size (Nat.le_refl _))⟩

def textP (K : KeyP) : List UInt8 := nameK K.kind ++ [32] ++ b64P (keyBytesP K)
set_option maxRecDepth 100000 in
set_option maxHeartbeats 1600000 in
theorem serialize_walk (T : TypeId) (u : Value) (K : KeyP) (w : World) (hf : FitK K) (hP : PubAt (fun b => b < w.heap.size) w (.iface T u) K) :
    Calls Tryz.prog 73 #[.iface T u] w fun e w' => e = .returned (.string ⟨(textP K).toArray⟩) ∧ Below w.heap.size w w' := by
  obtain ⟨fT, fM, hm1, hc1, hT, hm2, hc2, hM⟩ := mets _ w T u K hP hf
  have hnl := nameK_len K.kind
  have hkl := keyBytesP_len hf
  have HPU := Lib.hid hP
  have HT := Lib.hid hT
  obtain ⟨kb, hkb⟩ : ∃ n, n = keyBytesP K := ⟨_, rfl⟩
  have hM' : ∀ W : World, PubAt (fun b => b < W.heap.size) W (.iface T u) K → Calls Tryz.prog fM #[u] W (MarEnd W.heap.size W kb) := by rw [hkb]; exact hM
  have HM := Lib.hid hM'
  obtain ⟨nm, hnm⟩ : ∃ n, n = nameK K.kind := ⟨_, rfl⟩
  rw [← hnm] at hnl HT
  rw [← hkb] at hkl
  have hbl := b64P_len kb
  obtain ⟨Bs, hBs⟩ : ∃ n, n = b64P kb := ⟨_, rfl⟩
  have HES := Lib.hid (fun (W : World) (ge : Nat) (A : Option Addr) (c : Nat) (hb : Blk W ge 177 encC) (hc : kb.length ≤ c) (hr : RR (lit byteV) (fun b => b < W.heap.size) W A kb) => encStr_walk A c ge kb W hb hkl hc hr)
  simp only [← hBs] at HES hbl
  have hL : textP K = nm ++ [32] ++ Bs := by unfold textP; rw [hBs, hkb, hnm]
  rw [hL]
  have hk1 : (9223372036854775807 < nm.length + 1) = False := eq_false (by omega)
  have hk2 : (9223372036854775807 < nm.length + 1 + Bs.length) = False := eq_false (by omega)
  clear hP hT hM hM' hkb hnm hkl hL hnl hbl hBs
  go_enter Tryz.func73, Tryz.ntmps73
  go_wp2_with (first
    | (go_at_call 106; refine (kzzB64_walk w).mono ?_; rintro e w1 ⟨rfl, h1, h2⟩; have H1 := Lib.hid h1; have H2 := Lib.hid h2; clear h1 h2; refine Hid.out ?_)
    | (refine (HT.out _).mono ?_; rintro e w9 ⟨rfl, hw⟩; have hw := hw.symm; subst hw))
  refine Lib.hid ?_
  have HMM := Lib.hid (HM.out w1 ((HPU.out.keep (Keep.of_below H2.out)).mono (fun b hb _ => hb)))
  clear hm1 hc1
  go_wp2_with (first
    | (go_at_call 107; refine (HES.out w2 w.heap.size A2 c2 ((H5.out.block _ H1.out.lt).trans H1.out) H4.out.1 H4.out.2).mono ?_; rintro e w3 ⟨rfl, h6⟩; have H6 := Lib.hid h6; clear h6)
    | (refine HMM.out.mono ?_; rintro e w2 ⟨A2, c2, rfl, h4, h5⟩; have H4 := Lib.hid (And.intro (byts_parts (own_byts (ok := all_) h4 (fun _ _ => trivial))).1 ((byts_parts (own_byts (ok := all_) h4 (fun _ _ => trivial))).2.2.mono (ok' := fun b => b < w2.heap.size) (lit_steady _) (fun b hb _ => hb))); have H5 := Lib.hid h5; clear h4 h5))
  go_ret
  have h1 : (⟨nm.toArray⟩ : ByteArray) ++ ⟨#[32]⟩ ++ ⟨Bs.toArray⟩ = ⟨(nm ++ [32] ++ Bs).toArray⟩ := by rw [str_one, str_app]
  refine ⟨?_, (H2.out.trans (H5.out.mono H2.out.size)).trans (H6.out.mono (Nat.le_trans H2.out.size H5.out.size))⟩
  exact congrArg (fun s => Ending.returned (Value.string s)) (h1.trans (by simp))

end Go.Proofs.YtoeepfmmceilaaaGreatDoor
/- knownhosts.Line. -/
set_option linter.unusedVariables false
set_option linter.unusedSimpArgs false
namespace Go.Proofs.YtoeepfmmceilaaaGreatDoor
open Go.RowKit

section
variable {P : Program}
theorem wpList_pushM {w : World} {ops : Array Oper} {rest : List Oper} {o : Oper} {a : Act} {Q : Exit → Act → World → Prop} (hgd : o.guard = none) (s x : Operand) (t : TypeId)
    (ho : o.op = .call { callee := .builtin .append, args := #[s, x], argTypes := #[t, t] })
    (base : Nat) (e : TypeId) (z : Value) (bytes : Nat) (ht : P.underlying t = some (.slice e)) (hinfo : (P.info? e).map (fun i => (i.zero, i.size, i.bytes)) = some (some z, 1, bytes)) (hz1 : z.cells.size = 1)
    (v : Value) (xs : List Value) (n : Nat) (hn : xs.length = n) (hs : a.eval s = v) (hown : w.ownsRow base e 1 v n xs) (b : Nat) (u : Value) (hx : a.eval x = .slice (some ⟨b, 0, none⟩) 1 1) (hb : Blk w b e #[u]) (h1 : u.oneCell' = true)
    (h63 : n + 1 ≤ 9223372036854775807) (hbytes : (n + 1) * bytes ≤ 140737488355328) (hbase : base ≤ w.heap.size)
    (h : ∀ (A' : Option Addr) (c' : Nat) w', w'.ownsRow base e 1 (.slice A' (n + 1) c') (n + 1) (xs ++ [u]) → w.grownBy w' v.ownBlock → ((Value.slice A' (n + 1) c').ownBlock = v.ownBlock ∨ ∃ k, (Value.slice A' (n + 1) c').ownBlock = some k ∧ w.heap.size ≤ k) → wpList P ops Q rest (a.put o.dst (.slice A' (n + 1) c')) w') :
    wpList P ops Q (o :: rest) a w := by
  subst hn
  refine wpList_push hgd s x t ho base e z bytes ht hinfo hz1 v xs hs hown b u hx hb h1 h63 hbytes hbase ?_
  intro A' c' w' h2 h3 h4
  refine h A' c' w' ?_ h3 h4
  simpa using h2
end
/-- append in a region that draws its order. -/
theorem step_append_RR {P : Program} {w : World} {ops : Array Oper} {o : Oper} {a : Act} {K : Act → World → Prop} {Q : Exit → Act → World → Prop} {E : Prop} (hgd : o.guard = none) (s x : Operand) (t : TypeId)
    (ho : o.op = .call { callee := .builtin .append, args := #[s, x], argTypes := #[t, t] })
    (base : Nat) (e : TypeId) (z : Value) (bytes : Nat) (ht : P.underlying t = some (.slice e)) (hinfo : (P.info? e).map (fun i => (i.zero, i.size, i.bytes)) = some (some z, 1, bytes)) (hz1 : z.cells.size = 1)
    (v : Value) (xs : List Value) (hs : a.eval s = v) (hown : w.ownsRow base e 1 v xs.length xs) {α : Type} (enc : α → Value) (henc : ∀ y, (enc y).oneCell' = true) {ok : Nat → Prop} (A : Option Addr) (c : Nat) (ys : List α) (hx : a.eval x = .slice A ys.length c) (hr : RR (lit enc) ok w A ys)
    (h63 : xs.length + ys.length ≤ 9223372036854775807) (hbytes : (xs.length + ys.length) * bytes ≤ 140737488355328) (hbase : base ≤ w.heap.size)
    (h : ∀ (A' : Option Addr) (c' : Nat) w', w'.ownsRow base e 1 (.slice A' (xs.length + ys.length) c') (xs ++ ys.map enc).length (xs ++ ys.map enc) → w.grownBy w' v.ownBlock → ((Value.slice A' (xs.length + ys.length) c').ownBlock = v.ownBlock ∨ ∃ k, (Value.slice A' (xs.length + ys.length) c').ownBlock = some k ∧ w.heap.size ≤ k) → K (a.put o.dst (.slice A' (xs.length + ys.length) c')) w') :
    if Region.wanted o (yielded ops a.tmps) = true then Oper.wp P o a w K Q else E := by
  have hw : Region.wanted o (yielded ops a.tmps) = true := by simp [Region.wanted, hgd]
  rw [if_pos hw]
  exact wp_append_RR s x t ho base e z bytes ht hinfo hz1 v xs hs hown enc henc A c ys hx hr h63 hbytes hbase h
theorem info_str : (Tryz.prog.info? 9).map (fun i => (i.zero, i.size, i.bytes)) = some (some (.string .empty), 1, 16) := by kernel_rfl
/-- A row of texts of the call's own, read. -/
theorem own_RRs {w : World} {B : Nat} {A : Option Addr} {n c : Nat} {ls : List (List UInt8)} (h : w.ownsRow B 9 1 (.slice A n c) n (ls.map strV)) (hn : n = ls.length) : RR (lit strV) (fun b => B ≤ b ∧ b < w.heap.size) w A ls := by
  subst hn
  rcases h.2 with ⟨_, h0⟩ | ⟨g, cap, cur, hv, h1, h2, h3, h4, h5, h6⟩
  · have : ls = [] := List.eq_nil_of_length_eq_zero h0
    subst this
    exact RR.nil _ _ _ _
  · injection hv with e1 e2 e3
    subst e1 e3
    have h2' : Blk w g 9 cur := h2
    intro i x hi
    have hil : i < ls.length := (List.getElem?_eq_some_iff.1 hi).1
    have h7 : (cur.toList.take (ls.length * 1))[i]? = (ls.map strV)[i]? := congrArg (fun l : List Value => l[i]?) h6
    rw [List.getElem?_take, if_pos (by omega), Array.getElem?_toList, List.getElem?_map, hi] at h7
    exact ⟨⟨g, 0, none⟩, strV x, rfl, ⟨h1, h2'.lt⟩, by rw [add_z g i, h2'.cell]; exact h7, rfl⟩
def addrP (q : List UInt8 × List UInt8) : List UInt8 := q.1 ++ 58 :: q.2
def normQ (q : List UInt8 × List UInt8) : List UInt8 := normP q.1 q.2
/-- A host and a port that are asked. -/
def HostOk (q : List UInt8 × List UInt8) : Prop := namedP q.1 = true ∧ (∀ y ∈ q.2, y ≠ 58 ∧ y ≠ 91 ∧ y ≠ 93) ∧ q.2.length ≤ 100
theorem normQ_len {q : List UInt8 × List UInt8} (h : HostOk q) : (normQ q).length ≤ 200 := by
  obtain ⟨_, _, h1⟩ := named_all h.1
  have h2 := h.2.2
  unfold normQ normP
  split
  · omega
  · simp only [List.length_cons, List.length_append]
    omega
theorem flat_len : ∀ (r : List (List UInt8)), (∀ x ∈ r, x.length ≤ 200) → (r.map (44 :: ·)).flatten.length ≤ 201 * r.length
  | [], _ => by simp
  | x :: r, h => by
    have h1 := flat_len r (fun y hy => h y (List.mem_cons_of_mem _ hy))
    have h2 := h x (List.mem_cons_self ..)
    simp only [List.map_cons, List.flatten_cons, List.length_append, List.length_cons]
    omega
theorem join_len {l : List (List UInt8)} (h : ∀ x ∈ l, x.length ≤ 200) (hn : l.length ≤ 5) : (joinP l).length ≤ 2000 := by
  match l, h, hn with
  | [], _, _ => simp [joinP]
  | x :: r, h, hn =>
    have h1 := flat_len r (fun y hy => h y (List.mem_cons_of_mem _ hy))
    have h2 := h x (List.mem_cons_self ..)
    simp only [List.length_cons] at hn
    simp only [joinP, List.length_append]
    omega

set_option maxRecDepth 100000 in
set_option maxHeartbeats 1600000 in
theorem lineK_walk (Ad : Option Addr) (cd : Nat) (prs : List (List UInt8 × List UInt8)) (T : TypeId) (u : Value) (K : KeyP) (w : World) (hf : FitK K) (hP : PubAt (fun b => b < w.heap.size) w (.iface T u) K) (hn : prs.length ≤ 5) (hq : ∀ q ∈ prs, HostOk q) (hr : RR (lit strV) (fun b => b < w.heap.size) w Ad (prs.map addrP)) :
    Calls Tryz.prog 46 #[.slice Ad prs.length cd, .iface T u] w fun e w' => e = .returned (.string ⟨(joinP (prs.map normQ) ++ [32] ++ textP K).toArray⟩) ∧ Below w.heap.size w w' := by
  have HR := Lib.hid hr
  have HQ := Lib.hid hq
  have HPU := Lib.hid hP
  have HF := Lib.hid hf
  obtain ⟨n, hnn⟩ : ∃ n, n = prs.length := ⟨_, rfl⟩
  rw [← hnn] at hn ⊢
  have HN := Lib.hid hnn
  have hO0 : w.ownsRow w.heap.size 9 1 (.slice none 0 0) 0 (((prs.map normQ).take 0).map strV) := World.ownsRow_nil _ _ _ _
  clear hr hq hP hf hnn
  go_enter Tryz.func46, Tryz.ntmps46
  go_wp2_with fail
  go_loopg [5, 7, 10] n (fun gk v5 v7 v10 wr => ∃ (A2 : Option Addr) (c2 k : Nat), v5 = .slice A2 k c2 ∧ v10 = .int .i64 (k : Int) ∧ k ≤ n ∧ Hid (k + gk = n) ∧ Hid (wr.ownsRow w.heap.size 9 1 (.slice A2 k c2) k (((prs.map normQ).take k).map strV)) ∧ Hid (Below w.heap.size w wr))
  case atStart => exact ⟨none, 0, 0, rfl, rfl, by omega, by simp [Hid], hO0, Below.refl _ _⟩
  case round =>
    clear hO0
    obtain ⟨A2, c2, k, rfl, rfl, hk, hgk, HO, HB⟩ := hrel
    by_cases hlt : k < n
    · obtain ⟨q, hqk⟩ : ∃ q, prs[k]? = some q := ⟨_, List.getElem?_eq_getElem (by rw [← HN.out]; exact hlt)⟩
      have hqo := HQ.out q (List.mem_of_getElem? hqk)
      obtain ⟨ad, v, rfl, hab, hcell, hv⟩ := HR.out k (addrP q) (by rw [List.getElem?_map, hqk]; rfl)
      have hcx : wr.cell? (ad.add k) = some (.string ⟨(addrP q).toArray⟩) := by
        have h1 := HB.out.cell (p := ad.add k) (by rw [Lib.block_add]; exact hab)
        rw [h1, hcell, show v = strV (addrP q) from hv]
        rfl
      have HNm := Lib.hid (fun W : World => norm_plain q.1 q.2 hqo.1 hqo.2.1 hqo.2.2 W)
      have HL := Lib.hid (show ((prs.map normQ).take (k + 1)).map strV = ((prs.map normQ).take k).map strV ++ [strV (normQ q)] by rw [List.take_add_one, List.getElem?_map, hqk]; simp)
      have HLL := Lib.hid (show (((prs.map normQ).take k).map strV).length = k by rw [List.length_map, List.length_take, List.length_map, ← HN.out]; omega)
      obtain ⟨X, hX⟩ : ∃ X, X = addrP q := ⟨_, rfl⟩
      obtain ⟨R, hR⟩ : ∃ R, R = normQ q := ⟨_, rfl⟩
      have HNm2 : ∀ W : World, Calls Tryz.prog 40 #[.string ⟨X.toArray⟩] W fun e w' => e = .returned (.string ⟨R.toArray⟩) ∧ Below W.heap.size W w' := fun W => by rw [hX, hR]; exact HNm.out W
      have HNm := Lib.hid HNm2
      obtain ⟨L, hL⟩ : ∃ L, L = ((prs.map normQ).take k).map strV := ⟨_, rfl⟩
      rw [← hX] at hcx
      rw [← hR, ← hL] at HL
      rw [← hL] at HO HLL
      clear hX hR hL HNm2 hqk hqo hcell hv hab
      go_wp2_with (first
        | (go_at_call 40; refine (HNm.out wr).mono ?_; rintro e w1 ⟨rfl, h1⟩; have H1 := Lib.hid h1; clear h1)
        | (at_builtin; refine wpList_pushM rfl _ _ _ rfl w.heap.size 9 (.string .empty) 16 Tryz.underlying27 info_str rfl (.slice A2 k c2) L k HLL.out rfl (own_move_ HO.out (fun j hj => (H1.out.alloc H1.out.size _).block j (HO.out.lt j hj).2)) w1.heap.size (strV R) rfl (Blk.new _ _ _) rfl (by omega) (by omega) (by have h9 := Nat.le_trans HB.out.size H1.out.size; simp; omega) ?_; intro A3 c3 w3 hown3 hg3 hat3; have HO3 := Lib.hid hown3; have HG3 := Lib.hid hg3; clear hown3 hg3 hat3))
      go_roundg (gk - 1)
      case measure => have := hgk.out; omega
      case rel =>
        have hg := hgk.out
        have hb1 : Below w.heap.size w w1 := HB.out.trans (H1.out.mono HB.out.size)
        refine ⟨A3, c3, k + 1, rfl, by go_num, by omega, show _ = _ by omega, ?_, ?_⟩
        · show World.ownsRow _ _ _ _ _ _ _
          rw [HL.out]
          exact HO3.out
        · exact (hb1.alloc hb1.size _).grown HG3.out (by have := hb1.size; simp; omega) (fun j hj => own_block_lt_ HO.out hj)
    · have hke : k = n := by omega
      subst hke
      have hkl : (prs.map normQ).length = k := by rw [List.length_map, HN.out]
      have HJ := Lib.hid (join_walk A2 c2 (prs.map normQ) wr (by obtain ⟨A, c, h1, h2, _⟩ := own_form HO.out; injection h1 with _ _ e3; subst e3; rw [hkl]; exact h2) (by have := join_len (l := prs.map normQ) (fun x hx => by obtain ⟨q, hq, rfl⟩ := List.mem_map.1 hx; exact normQ_len (HQ.out q hq)) (by omega); omega) (by omega) ((own_RRs (by have h1 := HO.out; rw [List.take_of_length_le (by omega)] at h1; exact h1) hkl.symm).mono (lit_steady _) (fun b _ hb => hb.2)))
      have HPW := Lib.hid (HPU.out.keep (Keep.of_below HB.out))
      have HSR := Lib.hid (fun (W : World) (hb : Below w.heap.size w W) => serialize_walk T u K W HF.out ((HPU.out.keep (Keep.of_below hb)).mono (fun b hb _ => hb)))
      have hjl := join_len (l := prs.map normQ) (fun x hx => by obtain ⟨q, hq, rfl⟩ := List.mem_map.1 hx; exact normQ_len (HQ.out q hq)) (by omega)
      rw [hkl] at HJ
      obtain ⟨J, hJ⟩ : ∃ J, J = joinP (prs.map normQ) := ⟨_, rfl⟩
      have htl : (textP K).length ≤ 100000 := by
        have h1 := nameK_len K.kind
        have h2 := b64P_len (keyBytesP K)
        have h3 := keyBytesP_len HF.out
        unfold textP
        simp only [List.length_append, List.length_cons, List.length_nil]
        omega
      obtain ⟨X, hX⟩ : ∃ J, J = textP K := ⟨_, rfl⟩
      simp only [← hJ, ← hX] at HJ HSR hjl htl ⊢
      have hk1 : (9223372036854775807 < J.length + 1) = False := eq_false (by omega)
      have hk2 : (9223372036854775807 < J.length + 1 + X.length) = False := eq_false (by omega)
      have HJX := Lib.hid (And.intro hJ hX)
      clear hJ hX hjl htl hkl
      go_wp2_with (first
        | (go_at_call 72; refine HJ.out.mono ?_; rintro e w2 ⟨rfl, h2⟩; have B2 := Lib.hid (HB.out.trans (h2.mono HB.out.size)); clear h2)
        | (go_at_call 73; refine (HSR.out w2 B2.out).mono ?_; rintro e w3 ⟨rfl, h3⟩; have B3 := Lib.hid (B2.out.trans (h3.mono B2.out.size)); clear h3))
      go_ret
      have h1 : (⟨J.toArray⟩ : ByteArray) ++ ⟨#[32]⟩ ++ ⟨X.toArray⟩ = ⟨(J ++ [32] ++ X).toArray⟩ := by rw [str_one, str_app]
      rw [← HJX.out.1, ← HJX.out.2]
      exact ⟨congrArg (fun s => Ending.returned (Value.string s)) (h1.trans (by simp)), B3.out⟩

end Go.Proofs.YtoeepfmmceilaaaGreatDoor
