/- spec.MessageBytes: what it answers. -/
import Derived.Test.YtnlkgaobbobakaaMsg
import Derived.Test.YtnlkgaobbobakaaShape
import Derived.Test.YtnlkgaobbobakaaBytes
import Derived.Test.YtnlkgaobbobakaaSpecRead
set_option linter.unusedVariables false
set_option linter.unusedSimpArgs false
namespace Go.Proofs.Ytnlkgaobbobakaa
open Go.RowKit

/-- How spec.MessageBytes ends. -/
def MbEnd (w0 : World) (M : Msg) (e : Ending) (w' : World) : Prop :=
  ∃ (A : Option Addr) (c : Nat), e = .returned (.tuple #[.slice A (msgBytesP M).1.length c, .bool (msgBytesP M).2]) ∧ w'.ownsRow w0.heap.size 5 1 (.slice A (msgBytesP M).1.length c) (msgBytesP M).1.length ((msgBytesP M).1.map byteV) ∧ (msgBytesP M).1.length ≤ c ∧ c ≤ 9223372036854775807 ∧ Below w0.heap.size w0 w'

/-- The state while the letters are gone through. -/
structure MbSt (w0 : World) (k : Nat) (form : ByteArray) (pos : Nat) (A6 A7 A8 A9 A10 : Option Addr) (c6 c7 c8 c9 c10 : Nat) (cells : Array Value) (L : Msg) (out : List UInt8) (ok : Nat → Prop) (w : World) : Prop where
  own : w.ownsRow w0.heap.size 5 1 (.slice A6 out.length c6) out.length (out.map byteV)
  blk : Blk w w0.heap.size 28 cells
  iter : w.heap[k]? = some (.stringIter form pos)
  kne : w0.heap.size < k
  old : Below w0.heap.size w0 w
  i7 : L.ints.length ≤ c7 ∧ c7 ≤ 9223372036854775807 ∧ RR (lit u32V) ok w0 A7 L.ints
  i8 : L.strings.length ≤ c8 ∧ c8 ≤ 9223372036854775807 ∧ RR (lit strV) ok w0 A8 L.strings
  i9 : L.names.length ≤ c9 ∧ c9 ≤ 9223372036854775807 ∧ RR Strs ok w0 A9 L.names
  i10 : L.truths.length ≤ c10 ∧ c10 ≤ 9223372036854775807 ∧ RR (lit Value.bool) ok w0 A10 L.truths

section
variable {w0 w w' : World} {k : Nat} {form : ByteArray} {pos : Nat} {A6 A7 A8 A9 A10 : Option Addr} {c6 c7 c8 c9 c10 : Nat} {cells : Array Value} {L : Msg} {out : List UInt8} {ok : Nat → Prop}
theorem MbSt.next (h : MbSt w0 k form pos A6 A7 A8 A9 A10 c6 c7 c8 c9 c10 cells L out ok w) (p : Nat) : MbSt w0 k form p A6 A7 A8 A9 A10 c6 c7 c8 c9 c10 cells L out ok (w.iterAt k form p) := by
  have hg := iterAt_grown h.iter p
  refine ⟨own_move_ h.own (fun q hq => Lib.iterAt_other _ _ _ _ _ (fun e => own_ne_obj h.own h.iter (by rw [hq, e]))), (Lib.iterAt_other _ _ _ _ _ (by have := h.kne; omega)).trans h.blk, Lib.iterAt_heap _ _ _ _ _ h.iter, h.kne,
    h.old.grown hg h.old.size (fun q e => by injection e with e; have := h.kne; omega), h.i7, h.i8, h.i9, h.i10⟩
theorem MbSt.below (h : MbSt w0 k form pos A6 A7 A8 A9 A10 c6 c7 c8 c9 c10 cells L out ok w) (hb : Below w.heap.size w w') : MbSt w0 k form pos A6 A7 A8 A9 A10 c6 c7 c8 c9 c10 cells L out ok w' :=
  ⟨own_move_ h.own (fun q hq => hb.block q (h.own.lt q hq).2), (hb.block _ h.blk.lt).trans h.blk, (hb.block k (Array.getElem?_eq_some_iff.1 h.iter).1).trans h.iter, h.kne,
    h.old.trans (hb.mono h.old.size), h.i7, h.i8, h.i9, h.i10⟩
theorem MbSt.drewN (h : MbSt w0 k form pos A6 A7 A8 A9 A10 c6 c7 c8 c9 c10 cells L out ok w) (n : Nat) : MbSt w0 k form pos A6 A7 A8 A9 A10 c6 c7 c8 c9 c10 cells L out ok (w.drewN n) := h.below ⟨rfl, rfl, rfl, Nat.le_refl _, fun _ _ => rfl⟩
theorem MbSt.drew (h : MbSt w0 k form pos A6 A7 A8 A9 A10 c6 c7 c8 c9 c10 cells L out ok w) : MbSt w0 k form pos A6 A7 A8 A9 A10 c6 c7 c8 c9 c10 cells L out ok w.drew := h.drewN 1
theorem MbSt.alloc (h : MbSt w0 k form pos A6 A7 A8 A9 A10 c6 c7 c8 c9 c10 cells L out ok w) (o : Obj) : MbSt w0 k form pos A6 A7 A8 A9 A10 c6 c7 c8 c9 c10 cells L out ok (w.alloc o) := h.below ((Below.refl _ _).alloc (Nat.le_refl _) o)
/-- New bytes have been written, elsewhere. -/
theorem MbSt.written (h : MbSt w0 k form pos A6 A7 A8 A9 A10 c6 c7 c8 c9 c10 cells L out ok w) {out' : List UInt8} {A : Option Addr} {c : Nat} (hb : Below w.heap.size w w') (hown : w'.ownsRow w.heap.size 5 1 (.slice A out'.length c) out'.length (out'.map byteV)) : MbSt w0 k form pos A A7 A8 A9 A10 c c7 c8 c9 c10 cells L out' ok w' := by
  have h1 := h.below hb
  refine ⟨⟨hown.1, ?_⟩, h1.blk, h1.iter, h1.kne, h1.old, h1.i7, h1.i8, h1.i9, h1.i10⟩
  rcases hown.2 with hn | ⟨g, cap, cur, hv, hg, r⟩
  · exact .inl hn
  · exact .inr ⟨g, cap, cur, hv, Nat.le_trans h.old.size hg, r⟩
/-- The row of what has been written has grown. -/
theorem MbSt.pushed (h : MbSt w0 k form pos A6 A7 A8 A9 A10 c6 c7 c8 c9 c10 cells L out ok w) {out' : List UInt8} {A : Option Addr} {c : Nat} (hg : w.grownBy w' (Value.slice A6 out.length c6).ownBlock) (hown : w'.ownsRow w0.heap.size 5 1 (.slice A out'.length c) out'.length (out'.map byteV)) : MbSt w0 k form pos A A7 A8 A9 A10 c c7 c8 c9 c10 cells L out' ok w' :=
  ⟨hown, (hg.block _ h.blk.lt (fun e => own_ne_blk h.own h.blk (by decide) e.symm)).trans h.blk, (hg.block k (Array.getElem?_eq_some_iff.1 h.iter).1 (fun e => own_ne_obj h.own h.iter e.symm)).trans h.iter, h.kne,
    h.old.grown hg h.old.size (fun q e => (h.own.lt q e).1), h.i7, h.i8, h.i9, h.i10⟩
theorem MbSt.byts (h : MbSt w0 k form pos A6 A7 A8 A9 A10 c6 c7 c8 c9 c10 cells L out ok w) : Byts all_ w (.slice A6 out.length c6) out := by
  have h1 := h.own
  rw [show out.length = (out.map byteV).length by simp] at h1
  have := own_SL (l := out) (enc := byteV) (v := .slice A6 out.length c6) (ok := all_) (by simpa using h1) (fun _ _ => trivial)
  exact this
end

theorem MbSt.start (w0 : World) (num : Int) (AI AS AN AT AB : Option Addr) (cI cS cN cT cB : Nat) (M : Msg) (b : UInt8) (form : ByteArray) (ok : Nat → Prop)
    (hI : M.ints.length ≤ cI ∧ cI ≤ 9223372036854775807 ∧ RR (lit u32V) ok w0 AI M.ints) (hS : M.strings.length ≤ cS ∧ cS ≤ 9223372036854775807 ∧ RR (lit strV) ok w0 AS M.strings)
    (hN : M.names.length ≤ cN ∧ cN ≤ 9223372036854775807 ∧ RR Strs ok w0 AN M.names) (hT : M.truths.length ≤ cT ∧ cT ≤ 9223372036854775807 ∧ RR (lit Value.bool) ok w0 AT M.truths) (n : Nat) :
    MbSt w0 (w0.heap.size + 1 + 1) form 0 (some ⟨w0.heap.size + 1, 0, none⟩) AI AS AN AT 1 cI cS cN cT #[.int .i64 num, .slice AI M.ints.length cI, .slice AS M.strings.length cS, .slice AN M.names.length cN, .slice AT M.truths.length cT, .slice AB M.bytes.length cB] M [b] ok
      ((((w0.alloc (.cells #[.int .i64 num, .slice AI M.ints.length cI, .slice AS M.strings.length cS, .slice AN M.names.length cN, .slice AT M.truths.length cT, .slice AB M.bytes.length cB] 28)).alloc (.cells #[.int .u8 (b.toNat : Int)] 5)).drewN n).iter form 0) := by
  generalize ho1 : Obj.cells #[.int .i64 num, .slice AI M.ints.length cI, .slice AS M.strings.length cS, .slice AN M.names.length cN, .slice AT M.truths.length cT, .slice AB M.bytes.length cB] 28 = o1
  have s1 : (w0.alloc o1).heap.size = w0.heap.size + 1 := by simp
  have s2 : ∀ o2, ((w0.alloc o1).alloc o2).heap.size = w0.heap.size + 1 + 1 := by simp
  have hown : ((w0.alloc o1).alloc (.cells #[.int .u8 (b.toNat : Int)] 5)).ownsRow w0.heap.size 5 1 (.slice (some ⟨w0.heap.size + 1, 0, none⟩) 1 1) 1 [byteV b] := by
    have := World.ownsRow_lit (w0.alloc o1) (base := w0.heap.size) (size := 1) (e := 5) #[byteV b] 1 (by omega) (by decide) rfl
    rw [s1] at this
    exact this
  have hw : Below w0.heap.size w0 ((((w0.alloc o1).alloc (.cells #[.int .u8 (b.toNat : Int)] 5)).drewN n).iter form 0) := by
    have h1 : Below w0.heap.size w0 ((w0.alloc o1).alloc (.cells #[.int .u8 (b.toNat : Int)] 5)) := (((Below.refl _ _).alloc (Nat.le_refl _) _).alloc (by omega) _)
    have h2 : Below w0.heap.size w0 (((w0.alloc o1).alloc (.cells #[.int .u8 (b.toNat : Int)] 5)).drewN n) := ⟨h1.os, h1.tape, h1.output, h1.size, h1.block⟩
    exact h2.alloc (by have := s2 (.cells #[.int .u8 (b.toNat : Int)] 5); show _ ≤ ((w0.alloc o1).alloc (.cells #[.int .u8 (b.toNat : Int)] 5)).heap.size; omega) _
  refine ⟨?_, ?_, ?_, by omega, hw, hI, hS, hN, hT⟩
  · refine own_move_ hown (fun q hq => ?_)
    have hlt := (hown.lt q hq).2
    exact Below.heap_alloc _ _ _ hlt
  · have h0 : w0.heap.size < (w0.alloc o1).heap.size := by omega
    have e1 := Below.heap_alloc (w0.alloc o1) (.cells #[.int .u8 (b.toNat : Int)] 5) w0.heap.size h0
    have e2 := Below.heap_alloc (((w0.alloc o1).alloc (.cells #[.int .u8 (b.toNat : Int)] 5)).drewN n) (.stringIter form 0) w0.heap.size (by have := s2 (.cells #[.int .u8 (b.toNat : Int)] 5); show _ < ((w0.alloc o1).alloc (.cells #[.int .u8 (b.toNat : Int)] 5)).heap.size; omega)
    have e3 := heap_alloc_new w0 o1
    subst ho1
    exact e2.trans (e1.trans e3)
  · have e3 := heap_alloc_new (((w0.alloc o1).alloc (.cells #[.int .u8 (b.toNat : Int)] 5)).drewN n) (.stringIter form 0)
    have e4 : (((w0.alloc o1).alloc (.cells #[.int .u8 (b.toNat : Int)] 5)).drewN n).heap.size = w0.heap.size + 1 + 1 := s2 _
    rw [e4] at e3
    exact e3

end Go.Proofs.Ytnlkgaobbobakaa
