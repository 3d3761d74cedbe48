/- ssh.Unmarshal over structures without a message number: what it makes of bytes, field for field. -/
import Derived.Test.YtoeepfmmceilaaaGreatDoorLnWire
import Derived.Test.YtoeepfmmceilaaaGreatDoorLnFields
import Derived.Test.YtoeepfmmceilaaaGreatDoorAssert
set_option linter.unusedVariables false
set_option linter.unusedSimpArgs false
namespace Go.Proofs.YtoeepfmmceilaaaGreatDoor
open Go.RowKit

theorem byts_parts {ok : Nat → Prop} {w : World} {A : Option Addr} {c : Nat} {xs : List UInt8} (h : Byts ok w (.slice A xs.length c) xs) : xs.length ≤ c ∧ c ≤ 9223372036854775807 ∧ RR (lit byteV) ok w A xs := by
  obtain ⟨A', c', e, h1, h2, h3⟩ := h
  injection e with e1 e2 e3
  subst e1 e3
  exact ⟨h1, h2, h3⟩
/-- What a field is. -/
inductive Fv where
  | b (l : List UInt8)
  | s (l : List UInt8)
  | r (l : List UInt8)

/-- One field, by its letter. -/
def rd1 (c : UInt8) (xs : List UInt8) : Option (Fv × List UInt8) :=
  if c = 98 then (psP xs).map fun q => (.b q.1, q.2)
  else if c = 115 then (psP xs).map fun q => (.s q.1, q.2)
  else some (.r xs, [])
def rdAll : List UInt8 → List UInt8 → Option (List Fv × List UInt8)
  | [], xs => some ([], xs)
  | c :: r, xs => match rd1 c xs with
    | none => none
    | some q => (rdAll r q.2).map fun p => (q.1 :: p.1, p.2)

theorem psP_le {ys s zs : List UInt8} (h : psP ys = some (s, zs)) : s.length + zs.length ≤ ys.length := by
  unfold psP at h
  split at h
  · cases h
  · split at h
    · cases h
    · injection h with h
      injection h with h1 h2
      have hd : (ys.drop 4).length ≤ ys.length := by rw [List.length_drop]; omega
      generalize ys.drop 4 = Z at *
      rw [← h1, ← h2, List.length_take, List.length_drop]
      omega
/-- A field's value in the cells of its block. -/
def FvAt (ok : Nat → Prop) (w : World) (cs : Array Value) (q : UInt8 × Nat) : Fv → Prop
  | .b l => q.1 = 98 ∧ ∃ v, cs[q.2]? = some v ∧ Byts ok w v l
  | .s l => q.1 = 115 ∧ cs[q.2]? = some (strV l)
  | .r l => q.1 = 114 ∧ ∃ v, cs[q.2]? = some v ∧ Byts ok w v l
theorem FvAt.away {ok : Nat → Prop} {w w' : World} {cs cs' : Array Value} {q : UInt8 × Nat} {fv : Fv} (h : FvAt ok w cs q fv) (hc : cs'[q.2]? = cs[q.2]?) (hk : Keep ok w w') : FvAt ok w' cs' q fv := by
  cases fv with
  | b l => obtain ⟨h0, v, h2, h3⟩ := h; exact ⟨h0, v, hc.trans h2, bytes_steady.keep h3 hk⟩
  | s l => exact ⟨h.1, hc.trans h.2⟩
  | r l => obtain ⟨h0, v, h2, h3⟩ := h; exact ⟨h0, v, hc.trans h2, bytes_steady.keep h3 hk⟩

/-- Letters known, places one behind the other. -/
def letter (c : UInt8) : Prop := c = 98 ∨ c = 115 ∨ c = 114
def Laid : Nat → List (UInt8 × Nat) → Nat → Prop
  | at_, [], size => at_ ≤ size
  | at_, q :: r, size => at_ = q.2 ∧ letter q.1 ∧ Laid (q.2 + 1) r size
theorem Laid.le {n : Nat} : ∀ {L : List (UInt8 × Nat)} {a : Nat}, Laid a L n → a ≤ n
  | [], a, h => h
  | q :: r, a, h => by have := Laid.le h.2.2; have := h.1; omega
theorem Laid.at {n : Nat} : ∀ {L : List (UInt8 × Nat)} {a k : Nat} {q : UInt8 × Nat}, Laid a L n → L[k]? = some q → letter q.1 ∧ q.2 = a + k ∧ q.2 + 1 ≤ n
  | [], a, k, q, h, hk => by simp at hk
  | p :: r, a, 0, q, h, hk => by
    have : p = q := by simpa using hk
    subst this
    exact ⟨h.2.1, by have := h.1; omega, Laid.le h.2.2⟩
  | p :: r, a, k + 1, q, h, hk => by
    obtain ⟨h1, h2, h3⟩ := Laid.at h.2.2 (show r[k]? = some q by simpa using hk)
    exact ⟨h1, by have := h.1; omega, h3⟩

/-- What stands after so many fields. -/
def Got (ok : Nat → Prop) (w : World) (cs : Array Value) (L : List (UInt8 × Nat)) (vals : List Fv) : Prop := ∀ (i : Nat) (fv : Fv) (q : UInt8 × Nat), vals[i]? = some fv → L[i]? = some q → FvAt ok w cs q fv
theorem Got.nil (ok : Nat → Prop) (w : World) (cs : Array Value) (L : List (UInt8 × Nat)) : Got ok w cs L [] := fun i fv q h => by simp at h
theorem Got.next {ok : Nat → Prop} {w w' : World} {n k : Nat} {cs cs' : Array Value} {L : List (UInt8 × Nat)} {vals : List Fv} {fv : Fv} {q : UInt8 × Nat} (h : Got ok w cs L vals) (hL : Laid 0 L n) (hk : vals.length = k) (hq : L[k]? = some q)
    (hc : ∀ j, j < q.2 → cs'[j]? = cs[j]?) (hK : Keep ok w w') (hn : FvAt ok w' cs' q fv) : Got ok w' cs' L (vals ++ [fv]) := by
  intro i fv' p hi hp
  by_cases hlt : i < vals.length
  · rw [List.getElem?_append_left hlt] at hi
    have h1 := (Laid.at hL hp).2.1
    have h2 := (Laid.at hL hq).2.1
    exact (h i fv' p hi hp).away (hc p.2 (by omega)) hK
  · rw [List.getElem?_append_right (by omega)] at hi
    have e1 := (List.getElem?_eq_some_iff.1 hi).1
    simp at e1
    have e0 : i = k := by omega
    subst e0
    rw [hk, Nat.sub_self] at hi
    have e2 : fv = fv' := by simpa using hi
    have e3 : q = p := Option.some.inj (hq.symm.trans hp)
    subst e2 e3
    exact hn
theorem rdAll_at {L : List (UInt8 × Nat)} {k : Nat} {q : UInt8 × Nat} (hq : L[k]? = some q) (ys : List UInt8) :
    rdAll ((L.drop k).map (·.1)) ys = match rd1 q.1 ys with | none => none | some p => (rdAll ((L.drop (k + 1)).map (·.1)) p.2).map fun r => (p.1 :: r.1, r.2) := by
  rw [drop_cons_of hq]
  rfl
/-- The part that is left to read. -/
def Left (L : List (UInt8 × Nat)) (xs : List UInt8) (k : Nat) (vals : List Fv) (ys : List UInt8) : Prop := rdAll (L.map (·.1)) xs = (rdAll ((L.drop k).map (·.1)) ys).map fun q => (vals ++ q.1, q.2)
theorem Left.start (L : List (UInt8 × Nat)) (xs : List UInt8) : Left L xs 0 [] xs := by
  show _ = _
  simp
theorem Left.none_ {L : List (UInt8 × Nat)} {xs ys : List UInt8} {k : Nat} {vals : List Fv} {q : UInt8 × Nat} (h : Left L xs k vals ys) (hq : L[k]? = some q) (hn : rd1 q.1 ys = none) : rdAll (L.map (·.1)) xs = none := by
  rw [h, rdAll_at hq, hn]
  rfl
theorem Left.next {L : List (UInt8 × Nat)} {xs ys zs : List UInt8} {k : Nat} {vals : List Fv} {fv : Fv} {q : UInt8 × Nat} (h : Left L xs k vals ys) (hq : L[k]? = some q) (hn : rd1 q.1 ys = some (fv, zs)) : Left L xs (k + 1) (vals ++ [fv]) zs := by
  show _ = _
  rw [h, rdAll_at hq, hn]
  show Option.map _ (Option.map _ (rdAll ((L.drop (k + 1)).map (·.1)) zs)) = _
  generalize rdAll ((L.drop (k + 1)).map (·.1)) zs = o
  cases o <;> simp
theorem Left.done {L : List (UInt8 × Nat)} {xs ys : List UInt8} {k : Nat} {vals : List Fv} (h : Left L xs k vals ys) (hk : k = L.length) : rdAll (L.map (·.1)) xs = some (vals, ys) := by
  subst hk
  rw [h, List.drop_length]
  simp [rdAll]

/-- What stands while the fields are read. -/
structure UnmI (ok : Nat → Prop) (w1 wr : World) (gp : Nat) (t : TypeId) (n : Nat) (L : List (UInt8 × Nat)) (xs : List UInt8) (k : Nat) (ys : List UInt8) (cs2 : Array Value) (vals : List Fv) (A2 : Option Addr) : Prop where
  blk : Blk wr gp t cs2
  size : cs2.size = n
  dat : RR (lit byteV) ok wr A2 ys
  left : Left L xs k vals ys
  val : vals.length = k
  got : Got ok wr cs2 L vals
  keep : Keep (but gp) w1 wr
  okg : ∀ b, ok b → b ≠ gp
theorem UnmI.step {ok : Nat → Prop} {w1 wr w2 : World} {gp : Nat} {t : TypeId} {n : Nat} {L : List (UInt8 × Nat)} {xs : List UInt8} {k : Nat} {ys zs : List UInt8} {cs2 : Array Value} {vals : List Fv} {A2 A3 : Option Addr} {q : UInt8 × Nat} {fv : Fv} {u : Value}
    (h : UnmI ok w1 wr gp t n L xs k ys cs2 vals A2) (hL : Laid 0 L n) (hq : L[k]? = some q) (hb : Below wr.heap.size wr w2) (hd : RR (lit byteV) ok w2 A3 zs) (hr : rd1 q.1 ys = some (fv, zs))
    (hn : FvAt ok (w2.setCell ⟨gp, q.2, none⟩ u) (cs2.setIfInBounds q.2 u) q fv) : UnmI ok w1 (w2.setCell ⟨gp, q.2, none⟩ u) gp t n L xs (k + 1) zs (cs2.setIfInBounds q.2 u) (vals ++ [fv]) A3 := by
  have hk1 : Keep (but gp) w2 (w2.setCell ⟨gp, q.2, none⟩ u) := (Keep.refl _ _).setCell (fun _ hn => hn rfl) u
  have hk2 : Keep (but gp) wr (w2.setCell ⟨gp, q.2, none⟩ u) := (Keep.of_below hb).trans hk1
  have hb2 : Blk w2 gp t cs2 := (hb.block gp h.blk.lt).trans h.blk
  refine ⟨hb2.set_ _ _, by rw [Array.size_setIfInBounds]; exact h.size, RR.keep hd (lit_steady _) (hk1.mono fun b _ ho => h.okg b ho), h.left.next hq hr, by rw [List.length_append, h.val]; rfl, h.got.next hL h.val hq (fun j hj => Array.getElem?_setIfInBounds_ne (by omega)) (hk2.mono fun b _ ho => h.okg b ho) hn, h.keep.trans hk2, h.okg⟩
theorem UnmI.step_ {ok : Nat → Prop} {w1 wr w3 : World} {gp : Nat} {t : TypeId} {n : Nat} {L : List (UInt8 × Nat)} {xs : List UInt8} {k : Nat} {ys zs : List UInt8} {cs2 cs3 : Array Value} {vals : List Fv} {A2 A3 : Option Addr} {q : UInt8 × Nat} {fv : Fv}
    (h : UnmI ok w1 wr gp t n L xs k ys cs2 vals A2) (hL : Laid 0 L n) (hq : L[k]? = some q) (hk : Keep (but gp) wr w3) (hb : Blk w3 gp t cs3) (hs : cs3.size = cs2.size) (hlow : ∀ j, j < q.2 → cs3[j]? = cs2[j]?)
    (hd : RR (lit byteV) ok w3 A3 zs) (hr : rd1 q.1 ys = some (fv, zs)) (hn : FvAt ok w3 cs3 q fv) : UnmI ok w1 w3 gp t n L xs (k + 1) zs cs3 (vals ++ [fv]) A3 :=
  ⟨hb, hs.trans h.size, hd, h.left.next hq hr, by rw [List.length_append, h.val]; rfl, h.got.next hL h.val hq hlow (hk.mono fun b _ ho => h.okg b ho) hn, h.keep.trans hk, h.okg⟩
theorem UnmI.below {ok : Nat → Prop} {w1 wr w2 : World} {gp : Nat} {t : TypeId} {n : Nat} {L : List (UInt8 × Nat)} {xs : List UInt8} {k : Nat} {ys : List UInt8} {cs2 : Array Value} {vals : List Fv} {A2 : Option Addr}
    (h : UnmI ok w1 wr gp t n L xs k ys cs2 vals A2) (hb : Below wr.heap.size wr w2) : UnmI ok w1 w2 gp t n L xs k ys cs2 vals A2 :=
  ⟨(hb.block gp h.blk.lt).trans h.blk, h.size, RR.keep h.dat (lit_steady _) (Keep.of_below hb), h.left, h.val, fun i fv q h1 h2 => (h.got i fv q h1 h2).away rfl (Keep.of_below hb), h.keep.trans (Keep.of_below hb), h.okg⟩
theorem set_at {cs : Array Value} {i : Nat} {u : Value} (h : i < cs.size) : (cs.setIfInBounds i u)[i]? = some u := Array.getElem?_setIfInBounds_self_of_lt h

/-- What Unmarshal hands back. -/
def UnmEnd (ok : Nat → Prop) (w : World) (gp : Nat) (t : TypeId) (L : List (UInt8 × Nat)) (xs : List UInt8) (e : Ending) (w' : World) : Prop :=
  Keep (but gp) w w' ∧
  match rdAll (L.map (·.1)) xs with
  | some (vals, []) => e = .returned .nilIface ∧ ∃ cs, Blk w' gp t cs ∧ vals.length = L.length ∧ Got ok w' cs L vals
  | _ => ∃ T v, e = .returned (.iface T v)
theorem UnmEnd.bad {ok : Nat → Prop} {w : World} {gp : Nat} {t : TypeId} {L : List (UInt8 × Nat)} {xs : List UInt8} {T : TypeId} {v : Value} {w' : World} (hk : Keep (but gp) w w') (h : rdAll (L.map (·.1)) xs = none) : UnmEnd ok w gp t L xs (.returned (.iface T v)) w' := by
  refine ⟨hk, ?_⟩
  rw [h]
  exact ⟨T, v, rfl⟩
theorem addr0 (b k : Nat) : (⟨b, 0, none⟩ : Addr).add k = ⟨b, k, none⟩ := by unfold Addr.add; split <;> simp_all
/-- An error. -/
def ErrEnd (w : World) (e : Ending) (w' : World) : Prop := ∃ T v, e = .returned (.iface T v) ∧ Below w.heap.size w w'
theorem errors_new (s : ByteArray) (w : World) : Calls Tryz.prog 63 #[.string s] w (ErrEnd w) := by
  go_enter Tryz.func63, Tryz.ntmps63
  go_wp2
  go_ret
  exact ⟨_, _, rfl, (Below.refl _ _).alloc (Nat.le_refl _) _⟩
theorem parseError_new (n : Int) (w : World) : Calls Tryz.prog 153 #[.int .u8 n] w (ErrEnd w) := by
  go_enter Tryz.func153, Tryz.ntmps153
  go_wp2_with (go_at_call 63; refine (errors_new _ _).mono ?_; rintro e w1 ⟨T, v, rfl, hb⟩)
  go_ret
  exact ⟨T, v, rfl, hb⟩

set_option maxRecDepth 20000 in
set_option maxHeartbeats 1000000 in
theorem unmarshal_walk (ok : Nat → Prop) (A : Option Addr) (c : Nat) (xs : List UInt8) (w : World) (T F : Nat) (gp : Nat) (t : TypeId) (cs : Array Value) (L : List (UInt8 × Nat))
    (hne : 1 ≤ xs.length) (hl : xs.length ≤ 1000000) (hLl : L.length ≤ 1000) (hc : xs.length ≤ c) (hm : c ≤ 9223372036854775807) (hokg : ∀ b, ok b → b ≠ gp) (hr : RR (lit byteV) ok w A xs) (hb : Blk w gp t cs) (hL : Laid 0 L cs.size)
    (hme : ∀ W : World, (method 456 T (.pointer (some ⟨gp, 0, none⟩)) "ZzFields").run Tryz.prog W = .ok (F, .pointer (some ⟨gp, 0, none⟩)) W)
    (hcf : ∀ W : World, (callFunc F #[.pointer (some ⟨gp, 0, none⟩)]).run Tryz.prog W = .ok (.enter F #[.pointer (some ⟨gp, 0, none⟩)]) W)
    (hf : ∀ W, Calls Tryz.prog F #[.pointer (some ⟨gp, 0, none⟩)] W (FieldsEnd0 W gp L)) :
    Calls Tryz.prog 145 #[.slice A xs.length c, .iface T (.pointer (some ⟨gp, 0, none⟩))] w (UnmEnd ok w gp t L xs) := by
  have HF := Lib.hid hf
  have HLd := Lib.hid hL
  have HBk := Lib.hid hb
  have HR := Lib.hid hr
  have HC := Lib.hid hc
  have hz : ((xs.length : Int) == 0) = false := by simp only [beq_eq_false_iff_ne, ne_eq]; omega
  clear hf hr hL hb hc
  have t1 := ta_bool
  have t2 := ta_arr
  have t3 := ta_u64
  have t4 := ta_u32
  have t5 := ta_u8
  have t6 := ta_str
  have t7 := ta_rest
  have t8 := ta_bytes
  go_enter Tryz.func145, Tryz.ntmps145
  go_wp2_with (refine (HF.out _).mono ?_; rintro e w1 ⟨b2, rfl, hb2, hn2, hbl⟩; have HBL := Lib.hid hbl; have HB2 := Lib.hid hb2; have HN2 := Lib.hid hn2; clear hb2 hn2 hbl)
  have hkw : Keep (but gp) w w1 := Keep.of_below HBL.out
  have HKW := Lib.hid hkw
  have hd0 := Lib.hid (RR.keep HR.out (lit_steady _) (Keep.of_below HBL.out))
  have hc0 := HC.out
  have hL0 := Lib.hid (show Blk w1 gp t cs from (HBL.out.block gp HBk.out.lt).trans HBk.out)
  have hgpw := HBk.out.lt
  clear hkw
  go_loopg [0, 75] L.length (fun gk v0 v75 wr => ∃ (A2 : Option Addr) (c2 k : Nat) (ys : List UInt8) (cs2 : Array Value) (vals : List Fv), v0 = .slice A2 ys.length c2 ∧ v75 = .int .i64 (k : Int) ∧ k ≤ L.length ∧ ys.length ≤ c2 ∧ c2 ≤ 9223372036854775807 ∧ ys.length ≤ xs.length ∧ Hid (k + gk = L.length) ∧
    Hid (UnmI ok w1 wr gp t cs.size L xs k ys cs2 vals A2))
  case atStart =>
    exact ⟨A, c, 0, xs, cs, [], rfl, rfl, by omega, by omega, by omega, Nat.le_refl _, by simp [Hid], ⟨hL0.out, rfl, hd0.out, Left.start _ _, rfl, Got.nil _ _ _ _, Keep.refl _ _, hokg⟩⟩
  case round =>
    obtain ⟨A2, c2, k, ys, cs2, vals, rfl, rfl, hk, hyc, hcm, hyx, hgk, HI⟩ := hrel
    by_cases hlt : k < L.length
    · obtain ⟨⟨c0, off⟩, hq⟩ : ∃ q, L[k]? = some q := ⟨_, List.getElem?_eq_getElem hlt⟩
      obtain ⟨hlet, hoe, hoff⟩ := Laid.at HLd.out hq
      clear hoe
      have hfr := HI.out.blk.frozen off
      have hfc0 : wr.cell? ⟨b2, k, none⟩ = some (fieldV0 gp c0 off) := by
        rw [(HB2.out.keep HI.out.keep (show b2 ≠ gp by have := HN2.out; omega)).cell k]
        simp [hq]
      have hofl : off < cs2.size := by
        rw [HI.out.size]
        have hoff : off + 1 ≤ cs.size := hoff
        omega
      obtain ⟨old, hold⟩ : ∃ old, wr.cell? ⟨gp, off, none⟩ = some old := by
        rw [HI.out.blk.cell off]
        exact ⟨_, Array.getElem?_eq_getElem hofl⟩
      have HQ := Lib.hid hq
      have HOF := Lib.hid hoff
      have HKA := Lib.hid (HKW.out.trans HI.out.keep)
      clear hq hoff
      rcases (show c0 = 98 ∨ c0 = 115 ∨ c0 = 114 from hlet) with rfl | rfl | rfl
      ·
        have hfc : wr.cell? ⟨b2, k, none⟩ = some (.iface 260 (.pointer (some ⟨gp, off, none⟩))) := hfc0
        clear hfc0
        cases hps : psP ys with
        | none =>
          have HP := Lib.hid (parseStr_none ok _ _ ys wr (by omega) hyc hcm HI.out.dat hps)
          have HRD := Lib.hid (show rd1 98 ys = none by simp [rd1, hps])
          clear hps
          go_wp2_with (go_at_call 101; refine HP.out.mono ?_; rintro e w2 ⟨rfl, hb3⟩; have HB3 := Lib.hid hb3; clear hb3)
          go_ret
          exact UnmEnd.bad (HKA.out.trans (Keep.of_below HB3.out)) (HI.out.left.none_ HQ.out HRD.out)
        | some p =>
          obtain ⟨s, zs⟩ := p
          have HP := Lib.hid (parseStr_some ok _ _ ys s zs wr (by omega) hyc hcm HI.out.dat hps)
          have HRD := Lib.hid (show rd1 98 ys = some (.b s, zs) by simp [rd1, hps])
          have hzl := psP_le hps
          clear hps
          go_wp2_with (go_at_call 101; refine HP.out.mono ?_; rintro e w2 ⟨A5, c5, A3, c3, rfl, hs3, hd3, hb3⟩; have HD3 := Lib.hid hd3; have HS3 := Lib.hid hs3; have HB3 := Lib.hid hb3; have hold2 := (hb3.cell (blk_lt_of_cell hold)).trans hold; have hfr2 := (hb3.frozen (blk_lt_of_cell hold)).trans hfr; clear hs3 hd3 hb3)
          go_roundg (gk - 1)
          case measure => have := hgk.out; omega
          case rel =>
            have hg := hgk.out
            have hp := byts_parts HD3.out
            exact ⟨A3, c3, k + 1, zs, _, _, rfl, by simp, by omega, hp.1, hp.2.1, by omega, show _ = _ by omega, HI.out.step HLd.out HQ.out HB3.out hp.2.2 HRD.out ⟨rfl, _, set_at hofl, bytes_steady.keep HS3.out ((Keep.refl _ _).setCell (fun _ hn => hokg _ hn rfl) _)⟩⟩
      ·
        have hfc : wr.cell? ⟨b2, k, none⟩ = some (.iface 259 (.pointer (some ⟨gp, off, none⟩))) := hfc0
        clear hfc0
        cases hps : psP ys with
        | none =>
          have HP := Lib.hid (parseStr_none ok _ _ ys wr (by omega) hyc hcm HI.out.dat hps)
          have HRD := Lib.hid (show rd1 115 ys = none by simp [rd1, hps])
          clear hps
          go_wp2_with (first
            | (go_at_call 101; refine HP.out.mono ?_; rintro e w2 ⟨rfl, hb3⟩; have HB3 := Lib.hid hb3; clear hb3)
            | (go_at_call 63; refine (errors_new _ _).mono ?_; rintro e w3 ⟨T3, v3, rfl, hb4⟩))
          go_ret
          exact UnmEnd.bad (HKA.out.trans ((Keep.of_below HB3.out).trans (Keep.of_below hb4))) (HI.out.left.none_ HQ.out HRD.out)
        | some p =>
          obtain ⟨s, zs⟩ := p
          have HP := Lib.hid (parseStr_some ok _ _ ys s zs wr (by omega) hyc hcm HI.out.dat hps)
          have HRD := Lib.hid (show rd1 115 ys = some (.s s, zs) by simp [rd1, hps])
          have hzl := psP_le hps
          clear hps
          go_wp2_with (go_at_call 101; refine HP.out.mono ?_; rintro e w2 ⟨A5, c5, A3, c3, rfl, hs3, hd3, hb3⟩; have HD3 := Lib.hid hd3; have HB3 := Lib.hid hb3; have hold2 := (hb3.cell (blk_lt_of_cell hold)).trans hold; have hfr2 := (hb3.frozen (blk_lt_of_cell hold)).trans hfr; have hcv : (convert 28 9 (.slice A5 s.length c5)).run Tryz.prog w2 = .ok (.string ⟨s.toArray⟩) w2 := run_to_string (P := Tryz.prog) Tryz.underlying28 Tryz.underlying5 Tryz.underlying9 _ (byts_parts hs3).2.2; clear hs3 hd3 hb3)
          go_roundg (gk - 1)
          case measure => have := hgk.out; omega
          case rel =>
            have hg := hgk.out
            have hp := byts_parts HD3.out
            exact ⟨A3, c3, k + 1, zs, _, _, rfl, by simp, by omega, hp.1, hp.2.1, by omega, show _ = _ by omega, HI.out.step HLd.out HQ.out HB3.out hp.2.2 HRD.out ⟨rfl, set_at hofl⟩⟩
      ·
        have hfc : wr.cell? ⟨b2, k, none⟩ = some (.iface 262 (.agg #[.pointer (some ⟨gp, off, none⟩)])) := hfc0
        clear hfc0
        have hgl := HI.out.blk.lt
        have hold2 : (wr.alloc (.cells #[.pointer (some ⟨gp, off, none⟩)] 262)).cell? ⟨gp, off, none⟩ = some old := (((Below.refl wr.heap.size wr).alloc (Nat.le_refl _) _).cell hgl).trans hold
        have hfr2 : (wr.alloc (.cells #[.pointer (some ⟨gp, off, none⟩)] 262)).frozen? ⟨gp, off, none⟩ = false := (((Below.refl wr.heap.size wr).alloc (Nat.le_refl _) _).frozen hgl).trans hfr
        go_wp2_with fail
        go_roundg (gk - 1)
        case measure => have := hgk.out; omega
        case rel =>
          have hg := hgk.out
          refine ⟨none, 0, k + 1, [], _, _, rfl, by simp, by omega, Nat.le_refl _, by omega, by simp, show _ = _ by omega, UnmI.below (HI.out.step HLd.out HQ.out (Below.refl _ _) (A3 := none) (RR.nil _ _ _ _) (fv := .r ys) rfl ⟨rfl, _, set_at hofl, ?_⟩) ((Below.refl _ _).alloc (Nat.le_refl _) _)⟩
          exact ⟨A2, c2, rfl, hyc, hcm, RR.keep HI.out.dat (lit_steady _) ((Keep.refl _ _).setCell (fun _ hn => hokg _ hn rfl) _)⟩
    · have hke : k = L.length := by omega
      subst hke
      have hdone := HI.out.left.done rfl
      have HKA := Lib.hid (HKW.out.trans HI.out.keep)
      cases ys with
      | nil =>
        go_wp2_with fail
        go_ret
        refine ⟨HKA.out, ?_⟩
        rw [hdone]
        exact ⟨rfl, cs2, HI.out.blk, HI.out.val, HI.out.got⟩
      | cons b zs =>
        go_wp2_with (go_at_call 153; refine (parseError_new _ _).mono ?_; rintro e w3 ⟨T3, v3, rfl, hb4⟩)
        go_ret
        refine ⟨HKA.out.trans (Keep.of_below hb4), ?_⟩
        rw [hdone]
        exact ⟨T3, v3, rfl⟩

end Go.Proofs.YtoeepfmmceilaaaGreatDoor
