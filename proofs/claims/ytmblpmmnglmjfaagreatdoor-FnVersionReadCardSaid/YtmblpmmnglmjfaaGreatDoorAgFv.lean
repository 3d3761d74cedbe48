/- Fields of a message as the package writes them. Printed by gen_ag.py. -/
import Derived.Test.YtmblpmmnglmjfaaGreatDoorAgBytes
set_option linter.unusedVariables false
set_option linter.unusedSimpArgs false
namespace Go.Proofs.YtmblpmmnglmjfaaGreatDoor
open Go.RowKit

def fieldT (c : UInt8) : TypeId := if c = 110 then 176 else if c = 115 then 180 else if c = 108 then 186 else if c = 116 then 170 else 172
/-- A field as ZzFields hands it out: by its letter, its block, its place. -/
def fieldV (gp : Nat) (c : UInt8) (off : Nat) : Value := if c = 114 then .iface 185 (.agg #[.pointer (some ⟨gp, off, none⟩)]) else .iface (fieldT c) (.pointer (some ⟨gp, off, none⟩))
def FieldsEnd (w : World) (gp num : Nat) (L : List (UInt8 × Nat)) (e : Ending) (w' : World) : Prop := ∃ b1 b2, e = .returned (.tuple #[.slice (some ⟨b1, 0, none⟩) 1 1, .slice (some ⟨b2, 0, none⟩) L.length L.length]) ∧
  Blk w' b1 5 #[.int .u8 (num : Int)] ∧ Blk w' b2 20 (L.map fun q => fieldV gp q.1 q.2).toArray ∧ w.heap.size ≤ b1 ∧ w.heap.size ≤ b2 ∧ Below w.heap.size w w'
theorem FieldsEnd.drew {w w' : World} {gp num : Nat} {L : List (UInt8 × Nat)} {e : Ending} (h : FieldsEnd w gp num L e w') : FieldsEnd w gp num L e w'.drew := by
  obtain ⟨b1, b2, h1, h2, h3, h4, h5, h6⟩ := h
  exact ⟨b1, b2, h1, h2, h3, h4, h5, h6.drew⟩
theorem fields_12 (w : World) (gp num : Nat) (L : List (UInt8 × Nat)) (t1 t2 : TypeId) (n : Nat) (h1 : t1 = 5) (h2 : t2 = 20) (cs : Array Value) (hcs : cs = (L.map fun q => fieldV gp q.1 q.2).toArray) (hn : n = L.length) :
    FieldsEnd w gp num L (.returned (.tuple #[.slice (some ⟨w.heap.size, 0, none⟩) 1 1, .slice (some ⟨w.heap.size + 1, 0, none⟩) n n])) ((w.alloc (.cells #[.int .u8 (num : Int)] t1)).alloc (.cells cs t2)) := by
  subst h1 h2 hcs hn
  refine ⟨w.heap.size, w.heap.size + 1, rfl, (Blk.new _ _ _).alloc _, ?_, Nat.le_refl _, by omega, ((Below.refl _ _).alloc (Nat.le_refl _) _).alloc (by simp) _⟩
  have := Blk.new (w.alloc (.cells #[.int .u8 (num : Int)] 5)) 20 (L.map fun q => fieldV gp q.1 q.2).toArray
  simpa using this
theorem fields_21 (w : World) (gp num : Nat) (L : List (UInt8 × Nat)) (t1 t2 : TypeId) (n : Nat) (h1 : t1 = 5) (h2 : t2 = 20) (cs : Array Value) (hcs : cs = (L.map fun q => fieldV gp q.1 q.2).toArray) (hn : n = L.length) :
    FieldsEnd w gp num L (.returned (.tuple #[.slice (some ⟨w.heap.size + 1, 0, none⟩) 1 1, .slice (some ⟨w.heap.size, 0, none⟩) n n])) ((w.alloc (.cells cs t2)).alloc (.cells #[.int .u8 (num : Int)] t1)) := by
  subst h1 h2 hcs hn
  refine ⟨w.heap.size + 1, w.heap.size, rfl, ?_, (Blk.new _ _ _).alloc _, by omega, Nat.le_refl _, ((Below.refl _ _).alloc (Nat.le_refl _) _).alloc (by simp) _⟩
  have := Blk.new (w.alloc (.cells (L.map fun q => fieldV gp q.1 q.2).toArray 20)) 5 #[.int .u8 (num : Int)]
  simpa using this
theorem ta_ptr {P : Program} {T e : TypeId} {z : Value} (hu : P.underlying T = some (.pointer e)) (hz : (P.info? T).map (·.zero) = some (some z)) (x D : TypeId) (v : Value) (W : World) :
    (Instr.typeAssert (.iface D v) x T true).run P W = .ok (.tuple #[if D = T then v else z, .bool (decide (D = T))]) W := by
  obtain ⟨j, hj, hz'⟩ := Option.map_eq_some_iff.1 hz
  by_cases h : D = T <;> simp [Instr.typeAssert, run_underlying hu, typeInfo, zeroValue, hj, hz', h]
theorem ta_struct {P : Program} {T : TypeId} {e} {z : Value} (hu : P.underlying T = some (.struct e)) (hz : (P.info? T).map (·.zero) = some (some z)) (x D : TypeId) (v : Value) (W : World) :
    (Instr.typeAssert (.iface D v) x T true).run P W = .ok (.tuple #[if D = T then v else z, .bool (decide (D = T))]) W := by
  obtain ⟨j, hj, hz'⟩ := Option.map_eq_some_iff.1 hz
  by_cases h : D = T <;> simp [Instr.typeAssert, run_underlying hu, typeInfo, zeroValue, hj, hz', h]
theorem ta_bool (D : TypeId) (v : Value) (W : World) : (Instr.typeAssert (.iface D v) 20 170 true).run Tryz.prog W = .ok (.tuple #[if D = 170 then v else .pointer none, .bool (decide (D = 170))]) W := ta_ptr Tryz.underlying170 (by kernel_rfl) _ D v W
theorem ta_arr (D : TypeId) (v : Value) (W : World) : (Instr.typeAssert (.iface D v) 20 172 true).run Tryz.prog W = .ok (.tuple #[if D = 172 then v else .pointer none, .bool (decide (D = 172))]) W := ta_ptr Tryz.underlying172 (by kernel_rfl) _ D v W
theorem ta_u64 (D : TypeId) (v : Value) (W : World) : (Instr.typeAssert (.iface D v) 20 173 true).run Tryz.prog W = .ok (.tuple #[if D = 173 then v else .pointer none, .bool (decide (D = 173))]) W := ta_ptr Tryz.underlying173 (by kernel_rfl) _ D v W
theorem ta_u32 (D : TypeId) (v : Value) (W : World) : (Instr.typeAssert (.iface D v) 20 176 true).run Tryz.prog W = .ok (.tuple #[if D = 176 then v else .pointer none, .bool (decide (D = 176))]) W := ta_ptr Tryz.underlying176 (by kernel_rfl) _ D v W
theorem ta_u8 (D : TypeId) (v : Value) (W : World) : (Instr.typeAssert (.iface D v) 20 179 true).run Tryz.prog W = .ok (.tuple #[if D = 179 then v else .pointer none, .bool (decide (D = 179))]) W := ta_ptr Tryz.underlying179 (by kernel_rfl) _ D v W
theorem ta_str (D : TypeId) (v : Value) (W : World) : (Instr.typeAssert (.iface D v) 20 180 true).run Tryz.prog W = .ok (.tuple #[if D = 180 then v else .pointer none, .bool (decide (D = 180))]) W := ta_ptr Tryz.underlying180 (by kernel_rfl) _ D v W
theorem ta_bytes (D : TypeId) (v : Value) (W : World) : (Instr.typeAssert (.iface D v) 20 183 true).run Tryz.prog W = .ok (.tuple #[if D = 183 then v else .pointer none, .bool (decide (D = 183))]) W := ta_ptr Tryz.underlying183 (by kernel_rfl) _ D v W
theorem ta_strs (D : TypeId) (v : Value) (W : World) : (Instr.typeAssert (.iface D v) 20 186 true).run Tryz.prog W = .ok (.tuple #[if D = 186 then v else .pointer none, .bool (decide (D = 186))]) W := ta_ptr Tryz.underlying186 (by kernel_rfl) _ D v W
theorem ta_rest (D : TypeId) (v : Value) (W : World) : (Instr.typeAssert (.iface D v) 20 185 true).run Tryz.prog W = .ok (.tuple #[if D = 185 then v else .agg #[.pointer none], .bool (decide (D = 185))]) W := ta_struct Tryz.underlying185 (by kernel_rfl) _ D v W
/-- What a field is. -/
inductive Fv where
  | n (v : Nat)
  | s (l : List UInt8)
  | l (v : List (List UInt8))
  | t (b : Bool)
  | c (l : List UInt8)
  | r (l : List UInt8)
def widthC (c : UInt8) : Nat := if c = 99 then 16 else 1
/-- A field's value in the cells of its block. -/
def FvAt (ok : Nat → Prop) (w : World) (cs : Array Value) (q : UInt8 × Nat) : Fv → Prop
  | .n v => q.1 = 110 ∧ cs[q.2]? = some (u32V v)
  | .s l => q.1 = 115 ∧ cs[q.2]? = some (strV l)
  | .l ns => q.1 = 108 ∧ ∃ v, cs[q.2]? = some v ∧ Strs ok w v ns
  | .t b => q.1 = 116 ∧ cs[q.2]? = some (.bool b)
  | .c l => q.1 = 99 ∧ l.length = 16 ∧ ∀ j x, l[j]? = some x → cs[q.2 + j]? = some (byteV x)
  | .r l => q.1 = 114 ∧ ∃ v, cs[q.2]? = some v ∧ Byts ok w v l
theorem FvAt.away {ok : Nat → Prop} {w w' : World} {cs cs' : Array Value} {q : UInt8 × Nat} {fv : Fv} (h : FvAt ok w cs q fv) (hc : ∀ j, q.2 ≤ j → j < q.2 + widthC q.1 → cs'[j]? = cs[j]?) (hk : Keep ok w w') : FvAt ok w' cs' q fv := by
  have h1 : ∀ u, cs[q.2]? = some u → cs'[q.2]? = some u := fun u hu => (hc q.2 (Nat.le_refl _) (by unfold widthC; split <;> omega)).trans hu
  cases fv with
  | n v => exact ⟨h.1, h1 _ h.2⟩
  | s l => exact ⟨h.1, h1 _ h.2⟩
  | l ns => obtain ⟨h0, v, h2, h3⟩ := h; exact ⟨h0, v, h1 _ h2, strs_steady.keep h3 hk⟩
  | t b => exact ⟨h.1, h1 _ h.2⟩
  | c l =>
    obtain ⟨h0, h2, h3⟩ := h
    refine ⟨h0, h2, fun j x hx => ?_⟩
    have hj := (List.getElem?_eq_some_iff.1 hx).1
    rw [hc (q.2 + j) (by omega) (by rw [h0]; simp [widthC]; omega)]
    exact h3 j x hx
  | r l => obtain ⟨h0, v, h2, h3⟩ := h; exact ⟨h0, v, h1 _ h2, bytes_steady.keep h3 hk⟩
/-- Letters known, places one behind the other. -/
def letter (c : UInt8) : Prop := c = 110 ∨ c = 115 ∨ c = 108 ∨ c = 116 ∨ c = 99 ∨ c = 114
def Laid : Nat → List (UInt8 × Nat) → Nat → Prop
  | at_, [], size => at_ ≤ size
  | at_, q :: r, size => at_ = q.2 ∧ letter q.1 ∧ Laid (q.2 + widthC q.1) r size
theorem Laid.le {n : Nat} : ∀ {L : List (UInt8 × Nat)} {a : Nat}, Laid a L n → a ≤ n
  | [], a, h => h
  | q :: r, a, h => by have := Laid.le h.2.2; have := h.1; omega
theorem Laid.at {n : Nat} : ∀ {L : List (UInt8 × Nat)} {a k : Nat} {q : UInt8 × Nat}, Laid a L n → L[k]? = some q → letter q.1 ∧ a ≤ q.2 ∧ q.2 + widthC q.1 ≤ n
  | [], a, k, q, h, hk => by simp at hk
  | p :: r, a, 0, q, h, hk => by
    have : p = q := by simpa using hk
    subst this
    exact ⟨h.2.1, Nat.le_of_eq h.1, Laid.le h.2.2⟩
  | p :: r, a, k + 1, q, h, hk => by
    obtain ⟨h1, h2, h3⟩ := Laid.at h.2.2 (show r[k]? = some q by simpa using hk)
    exact ⟨h1, by have := h.1; omega, h3⟩
theorem Laid.lt {n : Nat} : ∀ {L : List (UInt8 × Nat)} {a i k : Nat} {p q : UInt8 × Nat}, Laid a L n → i < k → L[i]? = some p → L[k]? = some q → p.2 + widthC p.1 ≤ q.2
  | [], a, i, k, p, q, h, hik, hi, hk => by simp at hk
  | m :: r, a, 0, k + 1, p, q, h, hik, hi, hk => by
    have : m = p := by simpa using hi
    subst this
    exact (Laid.at h.2.2 (show r[k]? = some q by simpa using hk)).2.1
  | m :: r, a, i + 1, k + 1, p, q, h, hik, hi, hk => Laid.lt h.2.2 (by omega) (show r[i]? = some p by simpa using hi) (show r[k]? = some q by simpa using hk)
/-- What stands after so many fields. -/
def Got (ok : Nat → Prop) (w : World) (cs : Array Value) (L : List (UInt8 × Nat)) (vals : List Fv) : Prop := ∀ (i : Nat) (fv : Fv) (q : UInt8 × Nat), vals[i]? = some fv → L[i]? = some q → FvAt ok w cs q fv
theorem Got.nil (ok : Nat → Prop) (w : World) (cs : Array Value) (L : List (UInt8 × Nat)) : Got ok w cs L [] := fun i fv q h => by simp at h
theorem Got.next {ok : Nat → Prop} {w w' : World} {n k : Nat} {cs cs' : Array Value} {L : List (UInt8 × Nat)} {vals : List Fv} {fv : Fv} {q : UInt8 × Nat} (h : Got ok w cs L vals) (hL : Laid 0 L n) (hk : vals.length = k) (hq : L[k]? = some q)
    (hc : ∀ j, j < q.2 → cs'[j]? = cs[j]?) (hK : Keep ok w w') (hn : FvAt ok w' cs' q fv) : Got ok w' cs' L (vals ++ [fv]) := by
  intro i fv' p hi hp
  by_cases hlt : i < vals.length
  · rw [List.getElem?_append_left hlt] at hi
    have h1 := Laid.lt hL (show i < k by omega) hp hq
    exact (h i fv' p hi hp).away (fun j _ h3 => hc j (by omega)) hK
  · rw [List.getElem?_append_right (by omega)] at hi
    have e1 := (List.getElem?_eq_some_iff.1 hi).1
    simp at e1
    have e0 : i = k := by omega
    subst e0
    rw [hk, Nat.sub_self] at hi
    have e2 : fv = fv' := by simpa using hi
    have e3 : q = p := Option.some.inj (hq.symm.trans hp)
    subst e2 e3
    exact hn
theorem set_at {cs : Array Value} {i : Nat} {u : Value} (h : i < cs.size) : (cs.setIfInBounds i u)[i]? = some u := Array.getElem?_setIfInBounds_self_of_lt h
theorem addr0 (b k : Nat) : (⟨b, 0, none⟩ : Addr).add k = ⟨b, k, none⟩ := by unfold Addr.add; split <;> simp_all

end Go.Proofs.YtmblpmmnglmjfaaGreatDoor
