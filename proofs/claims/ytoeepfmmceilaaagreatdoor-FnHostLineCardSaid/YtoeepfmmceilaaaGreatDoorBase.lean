/- Words for memory that the walks of this seat share: slices that read as lists, blocks known whole, what a call leaves as it was. No statement is proved here; no condition. -/
import Derived.WalkKit
import Derived.WalkSpells
import Derived.WalkLawsBesides
import Derived.BigQuiet
import Derived.Deep.QuietTactic
import Derived.Deep.AppendLies
import Derived.Deep.LoopGhost
import Derived.Deep.DeepCutAuto
import Derived.Deep.RegionHeld3
import Derived.Deep.RegionLaw
import Derived.Maps.AppendAt
import Derived.Lib.ConvBytes
import Derived.Lib.AppendStr
import Derived.Lib.Hide
import Derived.Laws.BytesArg
import Derived.Laws.BitsAllLaws
import Derived.Laws.BitsLemmas
import Derived.Lib.OthersKept
import Derived.Test.YtoeepfmmceilaaaGreatDoorPure
set_option linter.unusedVariables false
set_option linter.unusedSimpArgs false
namespace Go.Proofs.YtoeepfmmceilaaaGreatDoor
open Go.RowKit

/-! ### lists of bytes and the numbers that they are -/
def byteV (b : UInt8) : Value := .int .u8 (b.toNat : Int)
def strV (l : List UInt8) : Value := .string ⟨l.toArray⟩

/-! ### what a world keeps -/
theorem blk_lt_of_cell {w : World} {p : Addr} {v : Value} (h : w.cell? p = some v) : p.block < w.heap.size := World.block_lt_of_cell? _ _ h
theorem add_block (a : Addr) (n : Nat) : (a.add n).block = a.block := by unfold Addr.add; split <;> rfl
theorem add_add_ (a : Addr) (i j : Nat) : (a.add i).add j = a.add (i + j) := by
  unfold Addr.add
  by_cases hi : i = 0 <;> by_cases hj : j = 0 <;> simp [hi, hj, Nat.add_assoc]

/-- Every block of `ok` is as it was; no block has gone; the streams are as they were. -/
structure Keep (ok : Nat → Prop) (w w' : World) : Prop where
  os : w'.os = w.os
  tape : w'.tape = w.tape
  output : w'.output = w.output
  size : w.heap.size ≤ w'.heap.size
  block : ∀ k, k < w.heap.size → ok k → w'.heap[k]? = w.heap[k]?

def all_ : Nat → Prop := fun _ => True
def but (g : Nat) : Nat → Prop := fun b => b ≠ g

section
variable {ok ok' : Nat → Prop} {w w1 w2 : World}
theorem Keep.refl (ok : Nat → Prop) (w : World) : Keep ok w w := ⟨rfl, rfl, rfl, Nat.le_refl _, fun _ _ _ => rfl⟩
theorem Keep.trans (h : Keep ok w w1) (k : Keep ok w1 w2) : Keep ok w w2 :=
  ⟨k.os.trans h.os, k.tape.trans h.tape, k.output.trans h.output, Nat.le_trans h.size k.size, fun i hi ho => (k.block i (Nat.lt_of_lt_of_le hi h.size) ho).trans (h.block i hi ho)⟩
/-- What a callee may have changed lies behind the old size, or outside `ok`. -/
theorem Keep.then {ok2 : Nat → Prop} (h : Keep ok w w1) (k : Keep ok2 w1 w2) (hi : ∀ b, b < w.heap.size → ok b → ok2 b) : Keep ok w w2 :=
  ⟨k.os.trans h.os, k.tape.trans h.tape, k.output.trans h.output, Nat.le_trans h.size k.size, fun i hlt ho => (k.block i (Nat.lt_of_lt_of_le hlt h.size) (hi i hlt ho)).trans (h.block i hlt ho)⟩
theorem Keep.mono (h : Keep ok w w1) (hi : ∀ b, b < w.heap.size → ok' b → ok b) : Keep ok' w w1 :=
  ⟨h.os, h.tape, h.output, h.size, fun i hlt ho => h.block i hlt (hi i hlt ho)⟩
theorem Keep.cell (h : Keep ok w w1) {p : Addr} {v : Value} (ho : ok p.block) (hc : w.cell? p = some v) : w1.cell? p = some v :=
  (World.cell?_of_block (h.block p.block (blk_lt_of_cell hc) ho)).trans hc
theorem Keep.drew (h : Keep ok w w1) : Keep ok w w1.drew := ⟨h.os, h.tape, h.output, h.size, h.block⟩
theorem Keep.drewN (h : Keep ok w w1) (n : Nat) : Keep ok w (w1.drewN n) := ⟨h.os, h.tape, h.output, h.size, h.block⟩
theorem Keep.alloc (h : Keep ok w w1) (o : Obj) : Keep ok w (w1.alloc o) :=
  h.trans ⟨rfl, rfl, rfl, by simp, fun k hk _ => Below.heap_alloc _ _ _ hk⟩
theorem Keep.setCell (h : Keep ok w w1) {p : Addr} (hp : p.block < w.heap.size → ¬ ok p.block) (u : Value) : Keep ok w (w1.setCell p u) :=
  h.then (ok2 := but p.block) ⟨rfl, rfl, rfl, by simp [World.setCell], fun k _ hn => Below.heap_setCell _ _ _ _ hn⟩
    (fun b hb ho e => by subst e; exact hp hb ho)
theorem Keep.grown (h : Keep ok w w1) {row : Option Nat} (hg : w1.grownBy w2 row) (hr : ∀ g, row = some g → g < w.heap.size → ¬ ok g) : Keep ok w w2 :=
  h.then (ok2 := fun b => some b ≠ row) ⟨hg.os, hg.tape, hg.output, hg.size, fun k hk hn => hg.block k hk hn⟩
    (fun b hb ho e => hr b e.symm hb ho)
theorem Keep.below (h : Keep all_ w w1) : Below w.heap.size w w1 := ⟨h.os, h.tape, h.output, h.size, fun k hk => h.block k hk trivial⟩
theorem Keep.of_below (h : Below w.heap.size w w1) : Keep ok w w1 := ⟨h.os, h.tape, h.output, h.size, fun k hk _ => h.block k hk⟩
end

/-! ### slices that read as lists: one cell an element -/
/-- What a value says: of blocks in `ok` alone. -/
abbrev Say (α : Type) := (Nat → Prop) → World → Value → α → Prop
def lit {α : Type} (enc : α → Value) : Say α := fun _ _ v x => v = enc x
def RR {α : Type} (R : Say α) (ok : Nat → Prop) (w : World) (A : Option Addr) (xs : List α) : Prop :=
  ∀ i x, xs[i]? = some x → ∃ ad v, A = some ad ∧ ok ad.block ∧ w.cell? (ad.add i) = some v ∧ R ok w v x
def SL {α : Type} (R : Say α) : Say (List α) := fun ok w v xs =>
  ∃ A c, v = .slice A xs.length c ∧ xs.length ≤ c ∧ c ≤ 9223372036854775807 ∧ RR R ok w A xs
/-- Every old block of `ok` stands in the new world as it stood, and is one of `ok'`. -/
def Mv (ok ok' : Nat → Prop) (w w' : World) : Prop := ∀ b, b < w.heap.size → ok b → ok' b ∧ w'.heap[b]? = w.heap[b]?
theorem Keep.mv {ok : Nat → Prop} {w w' : World} (h : Keep ok w w') : Mv ok ok w w' := fun b hb ho => ⟨ho, h.block b hb ho⟩
theorem Mv.of {ok ok' : Nat → Prop} {w w' : World} (hi : ∀ b, b < w.heap.size → ok b → ok' b) (h : Keep ok w w') : Mv ok ok' w w' := fun b hb ho => ⟨hi b hb ho, h.block b hb ho⟩
/-- R speaks of blocks in `ok` alone. -/
structure Steady {α : Type} (R : Say α) : Prop where
  move : ∀ {ok ok' : Nat → Prop} {w w' : World} {v : Value} {x : α}, R ok w v x → Mv ok ok' w w' → R ok' w' v x
theorem Steady.keep {α : Type} {R : Say α} (hR : Steady R) {ok : Nat → Prop} {w w' : World} {v : Value} {x : α} (h : R ok w v x) (hk : Keep ok w w') : R ok w' v x := hR.move h hk.mv
theorem Steady.mono {α : Type} {R : Say α} (hR : Steady R) {ok ok' : Nat → Prop} {w : World} {v : Value} {x : α} (h : R ok w v x) (hi : ∀ b, b < w.heap.size → ok b → ok' b) : R ok' w v x := hR.move h (fun b hb ho => ⟨hi b hb ho, rfl⟩)
theorem lit_steady {α : Type} (enc : α → Value) : Steady (lit enc) := ⟨fun h _ => h⟩
section
variable {α : Type} {R : Say α} {ok ok' : Nat → Prop} {w w' : World} {A : Option Addr} {xs : List α}
theorem RR.move (h : RR R ok w A xs) (hR : Steady R) (hm : Mv ok ok' w w') : RR R ok' w' A xs := fun i x hx => by
  obtain ⟨ad, v, hA, ho, hc, hv⟩ := h i x hx
  have hlt := blk_lt_of_cell hc
  rw [add_block] at hlt
  obtain ⟨ho', hb⟩ := hm _ hlt ho
  exact ⟨ad, v, hA, ho', (World.cell?_of_block (by rw [add_block]; exact hb)).trans hc, hR.move hv hm⟩
theorem RR.keep (h : RR R ok w A xs) (hR : Steady R) (hk : Keep ok w w') : RR R ok w' A xs := h.move hR hk.mv
theorem RR.mono (h : RR R ok w A xs) (hR : Steady R) (hi : ∀ b, b < w.heap.size → ok b → ok' b) : RR R ok' w A xs := h.move hR (fun b hb ho => ⟨hi b hb ho, rfl⟩)
theorem RR.nil (R : Say α) (ok : Nat → Prop) (w : World) (A : Option Addr) : RR R ok w A [] := fun i x hx => by simp at hx
theorem RR.addr (h : RR R ok w A xs) (hn : 0 < xs.length) : ∃ ad, A = some ad ∧ ok ad.block ∧ ∀ i x, xs[i]? = some x → ∃ v, w.cell? (ad.add i) = some v ∧ R ok w v x := by
  obtain ⟨ad, v, hA, ho, hc, hv⟩ := h 0 xs[0] (List.getElem?_eq_getElem hn)
  refine ⟨ad, hA, ho, fun i x hx => ?_⟩
  obtain ⟨ad', v', hA', _, hc', hv'⟩ := h i x hx
  obtain rfl : ad = ad' := by rw [hA] at hA'; injection hA'
  exact ⟨v', hc', hv'⟩
theorem RR.take (h : RR R ok w A xs) (k : Nat) : RR R ok w A (xs.take k) := fun i x hx => by
  rw [List.getElem?_take] at hx
  split at hx
  · exact h i x hx
  · cases hx
theorem RR.drop (h : RR R ok w A xs) (k c : Nat) (hc : xs.length ≤ c) : RR R ok w (if c = k then A else A.map (·.add k)) (xs.drop k) := fun i x hx => by
  rw [List.getElem?_drop] at hx
  obtain ⟨ad, v, hA, ho, hcell, hv⟩ := h (k + i) x hx
  have hlt : k + i < xs.length := (List.getElem?_eq_some_iff.1 hx).1
  rw [if_neg (by omega), hA]
  exact ⟨ad.add k, v, rfl, by rw [add_block]; exact ho, by rw [add_add_]; exact hcell, hv⟩
theorem RR.imp {R' : Say α} (h : RR R ok w A xs) (hi : ∀ v x, R ok w v x → R' ok w v x) : RR R' ok w A xs := fun i x hx => by
  obtain ⟨ad, v, hA, ho, hc, hv⟩ := h i x hx
  exact ⟨ad, v, hA, ho, hc, hi _ _ hv⟩
end
theorem SL_steady {α : Type} {R : Say α} (hR : Steady R) : Steady (SL R) :=
  ⟨fun ⟨A, c, e, h1, h2, h3⟩ hm => ⟨A, c, e, h1, h2, h3.move hR hm⟩⟩
abbrev Byts : Say (List UInt8) := SL (lit byteV)
abbrev Strs : Say (List (List UInt8)) := SL (lit strV)
theorem bytes_steady : Steady Byts := SL_steady (lit_steady _)
theorem RB.at {ok : Nat → Prop} {w : World} {A : Option Addr} {xs : List UInt8} (h : RR (lit byteV) ok w A xs) (hn : 0 < xs.length) :
    ∃ ad, A = some ad ∧ ok ad.block ∧ ∀ i x, xs[i]? = some x → w.cell? (ad.add i) = some (.int .u8 (x.toNat : Int)) := by
  obtain ⟨ad, hA, ho, hc⟩ := h.addr hn
  refine ⟨ad, hA, ho, fun i x hx => ?_⟩
  obtain ⟨v, h1, rfl⟩ := hc i x hx
  exact h1
theorem SL.none_ {α : Type} (R : Say α) (ok : Nat → Prop) (w : World) : SL R ok w (.slice none 0 0) [] := ⟨none, 0, rfl, by simp, by omega, RR.nil _ _ _ _⟩
theorem grownBy_refl (w : World) (row : Option Nat) : w.grownBy w row := ⟨rfl, rfl, rfl, Nat.le_refl _, fun _ _ _ => rfl⟩
theorem grownBy_drewN {w w' : World} {row : Option Nat} (h : w.grownBy w' row) (n : Nat) : w.grownBy (w'.drewN n) row := ⟨h.os, h.tape, h.output, h.size, h.block⟩
theorem grownBy_trans {a b c : World} {row : Option Nat} (h : a.grownBy b row) (k : b.grownBy c row) : a.grownBy c row :=
  ⟨k.os.trans h.os, k.tape.trans h.tape, k.output.trans h.output, Nat.le_trans h.size k.size, fun i hi hn => (k.block i (Nat.lt_of_lt_of_le hi h.size) hn).trans (h.block i hi hn)⟩
theorem grownBy_alloc {a b : World} {row : Option Nat} (h : a.grownBy b row) (o : Obj) : a.grownBy (b.alloc o) row := grownBy_trans h (World.grownBy_alloc b o row)
theorem Keep.of_grown {ok : Nat → Prop} {w w' : World} {g : Nat} (h : w.grownBy w' (some g)) (hn : ¬ ok g) : Keep ok w w' := (Keep.refl ok w).grown h (fun k e _ => by injection e with e; subst e; exact hn)

/-! ### blocks known whole -/
def Blk (w : World) (g : Nat) (t : TypeId) (cs : Array Value) : Prop := w.heap[g]? = some (.cells cs t (0, 0))
section
variable {w w' : World} {g : Nat} {t : TypeId} {cs : Array Value}
theorem Blk.lt (h : Blk w g t cs) : g < w.heap.size := (Array.getElem?_eq_some_iff.1 h).1
theorem Blk.cell (h : Blk w g t cs) (i : Nat) : w.cell? ⟨g, i, none⟩ = cs[i]? := cell_of_row w g i cs t (0, 0) h
theorem Blk.frozen (h : Blk w g t cs) (i : Nat) : w.frozen? ⟨g, i, none⟩ = false := by
  unfold Blk at h
  simp [World.frozen?, h]
theorem Blk.new (w : World) (t : TypeId) (cs : Array Value) : Blk (w.alloc (.cells cs t)) w.heap.size t cs := heap_alloc_new w _
theorem Blk.set_ (h : Blk w g t cs) (i : Nat) (u : Value) : Blk (w.setCell ⟨g, i, none⟩ u) g t (cs.setIfInBounds i u) := by
  unfold Blk at h ⊢
  simp [World.setCell, Array.getElem?_modify, h]
theorem Blk.far (h : Blk w g t cs) {p : Addr} (hp : g ≠ p.block) (u : Value) : Blk (w.setCell p u) g t cs := (Below.heap_setCell w p u g hp).trans h
theorem Blk.drew (h : Blk w g t cs) : Blk w.drew g t cs := h
theorem Blk.drewN (h : Blk w g t cs) (n : Nat) : Blk (w.drewN n) g t cs := h
theorem Blk.alloc (h : Blk w g t cs) (o : Obj) : Blk (w.alloc o) g t cs := (Below.heap_alloc w o g h.lt).trans h
theorem Blk.keep {ok : Nat → Prop} (h : Blk w g t cs) (hk : Keep ok w w') (ho : ok g) : Blk w' g t cs := (hk.block g h.lt ho).trans h
end

/-! ### cuts of a slice -/
section
variable {P : Program} {α : Type}
theorem cut_from (t e : TypeId) (kl : IntKind) {i : TypeInfo} (ht : P.underlying t = some (.slice e)) (hi : P.info? e = some i) (hsz : i.size = 1) (A : Option Addr) (c : Nat) (xs : List α) (m : Nat) (hm : m ≤ xs.length) (hc : xs.length ≤ c) :
    ∃ (A' : Option Addr) (ys : List α), (∀ W : World, (Instr.slice t (.slice A xs.length c) (some (.int kl (m : Int))) none none).run P W = .ok (.slice A' ys.length (c - m)) W) ∧
      Hid (ys = xs.drop m) ∧ ys.length ≤ c - m ∧ ∀ (R : Say α) (ok : Nat → Prop) (w : World), RR R ok w A xs → RR R ok w A' ys := by
  refine ⟨if c = m then A else A.map (·.add m), xs.drop m, fun W => ?_, rfl, by rw [List.length_drop]; omega, fun R ok w h => h.drop m c hc⟩
  have hel : P.elem t = e := by simp [Program.elem, ht]
  have hu : P.underlying t = some (.slice (P.elem t)) := by rw [hel]; exact ht
  rw [run_slice_l W t A xs.length c hu kl (m : Int) (Int.natCast_nonneg _) (by omega), hel]
  simp [sizeOf, typeInfo, hi, hsz, sliced, Result.andThen]
theorem cut_mid (t e : TypeId) (kl kh : IntKind) {i : TypeInfo} (ht : P.underlying t = some (.slice e)) (hi : P.info? e = some i) (hsz : i.size = 1) (A : Option Addr) (c : Nat) (xs : List α) (a b : Nat) (hab : a ≤ b) (hb : b ≤ xs.length) (hc : xs.length ≤ c) :
    ∃ (A' : Option Addr) (ys : List α), (∀ W : World, (Instr.slice t (.slice A xs.length c) (some (.int kl (a : Int))) (some (.int kh (b : Int))) none).run P W = .ok (.slice A' ys.length (c - a)) W) ∧
      Hid (ys = (xs.take b).drop a) ∧ ys.length ≤ c - a ∧ ∀ (R : Say α) (ok : Nat → Prop) (w : World), RR R ok w A xs → RR R ok w A' ys := by
  refine ⟨if c = a then A else A.map (·.add a), (xs.take b).drop a, fun W => ?_, rfl, by rw [List.length_drop, List.length_take]; omega, fun R ok w h => (h.take b).drop a c (by rw [List.length_take]; omega)⟩
  have hel : P.elem t = e := by simp [Program.elem, ht]
  have hu : P.underlying t = some (.slice (P.elem t)) := by rw [hel]; exact ht
  rw [run_slice_lh W t A xs.length c hu kl kh (a : Int) (b : Int) (Int.natCast_nonneg _) (by omega) (by omega), hel]
  have h1 : min b xs.length - a = b - a := by omega
  simp [sizeOf, typeInfo, hi, hsz, sliced, Result.andThen, h1]
theorem cut_to (t e : TypeId) (kh : IntKind) {i : TypeInfo} (ht : P.underlying t = some (.slice e)) (hi : P.info? e = some i) (hsz : i.size = 1) (A : Option Addr) (c : Nat) (xs : List α) (m : Nat) (hm : m ≤ xs.length) (hc : xs.length ≤ c) :
    ∃ (A' : Option Addr) (ys : List α), (∀ W : World, (Instr.slice t (.slice A xs.length c) none (some (.int kh (m : Int))) none).run P W = .ok (.slice A' ys.length c) W) ∧
      Hid (ys = xs.take m) ∧ ys.length ≤ c ∧ ∀ (R : Say α) (ok : Nat → Prop) (w : World), RR R ok w A xs → RR R ok w A' ys := by
  refine ⟨A, xs.take m, fun W => ?_, rfl, by rw [List.length_take]; omega, fun R ok w h => h.take m⟩
  have hel : P.elem t = e := by simp [Program.elem, ht]
  have hu : P.underlying t = some (.slice (P.elem t)) := by rw [hel]; exact ht
  rw [run_slice_h W t A xs.length c hu kh (m : Int) (Int.natCast_nonneg _) (by omega), hel]
  have h1 : min m xs.length = m := by omega
  simp only [sizeOf, typeInfo, List.length_take, h1]
  cases A <;> simp [hi, hsz, sliced, Result.andThen, Addr.add]
end

/-! ### four bytes as one number -/
theorem byte_le (a : UInt8) : (a.toNat : Int) ≤ 255 := by have := a.toNat_lt; omega
theorem nat_or_add (x y i : Nat) (h : y < 2 ^ i) : x * 2 ^ i ||| y = x * 2 ^ i + y := by
  rw [Nat.mul_comm]; exact (Nat.two_pow_add_eq_or_of_lt h x).symm
theorem or_be32 (a b c d : UInt8) : bits .or .u32 (bits .or .u32 (bits .or .u32 ((a.toNat : Int) * 16777216) ((b.toNat : Int) * 65536)) ((c.toNat : Int) * 256)) (d.toNat : Int) = ((be32 a b c d : Nat) : Int) := by
  have ha := a.toNat_lt
  have hb := b.toNat_lt
  have hc := c.toNat_lt
  have hd := d.toNat_lt
  have e1 : ((a.toNat : Int) * 16777216) = ((a.toNat * 16777216 : Nat) : Int) := by omega
  have e2 : ((b.toNat : Int) * 65536) = ((b.toNat * 65536 : Nat) : Int) := by omega
  have e3 : ((c.toNat : Int) * 256) = ((c.toNat * 256 : Nat) : Int) := by omega
  have o1 : a.toNat * 16777216 ||| b.toNat * 65536 = a.toNat * 16777216 + b.toNat * 65536 := nat_or_add a.toNat (b.toNat * 65536) 24 (by omega)
  have o2 : (a.toNat * 16777216 + b.toNat * 65536) ||| c.toNat * 256 = a.toNat * 16777216 + b.toNat * 65536 + c.toNat * 256 := by
    have := nat_or_add (a.toNat * 256 + b.toNat) (c.toNat * 256) 16 (by omega)
    rwa [show (a.toNat * 256 + b.toNat) * 2 ^ 16 = a.toNat * 16777216 + b.toNat * 65536 by omega] at this
  have o3 : (a.toNat * 16777216 + b.toNat * 65536 + c.toNat * 256) ||| d.toNat = a.toNat * 16777216 + b.toNat * 65536 + c.toNat * 256 + d.toNat := by
    have := nat_or_add (a.toNat * 65536 + b.toNat * 256 + c.toNat) d.toNat 8 (by omega)
    rwa [show (a.toNat * 65536 + b.toNat * 256 + c.toNat) * 2 ^ 8 = a.toNat * 16777216 + b.toNat * 65536 + c.toNat * 256 by omega] at this
  rw [e1, e2, e3, u32_or_nat _ _ (by omega) (by omega), o1, u32_or_nat _ _ (by omega) (by omega), o2, u32_or_nat _ _ (by omega) (by omega), o3]
  rfl
theorem be32_lt (a b c d : UInt8) : be32 a b c d < 4294967296 := by
  have ha := a.toNat_lt
  have hb := b.toNat_lt
  have hc := c.toNat_lt
  have hd := d.toNat_lt
  unfold be32
  omega

/-! ### make([]byte, n) -/
def zeros (n : Nat) : Array Value := madeCells #[.int .u8 0] n
theorem run_make_bytes {P : Program} {t e : TypeId} (ht : P.underlying t = some (.slice e)) (hi : (P.info? e).map (fun i => (i.zero, i.size, i.bytes)) = some (some (.int .u8 0), 1, 1)) (n : Nat) (hn : n ≤ 140737488355328) (W : World) :
    (Instr.makeSlice t (.int .i64 (n : Int)) (.int .i64 (n : Int))).run P W = .ok (.slice (some ⟨W.heap.size, 0, none⟩) n n) (W.alloc (.cells (zeros n) e)) := by
  obtain ⟨i, hi', hz, hs, hb⟩ := info_parts hi
  have h := run_make W t e i (.int .u8 0) ht hi' hz .i64 .i64 (n : Int) (n : Int) (by omega) (by omega) (by rw [hb]; omega) (by omega)
  simp only [Int.toNat_natCast, hs, Nat.mul_one, Value.cells] at h
  exact h
theorem made_bytes (ok : Nat → Prop) (W : World) (e : TypeId) (n : Nat) (ho : ok W.heap.size) : RR (lit byteV) ok (W.alloc (.cells (zeros n) e)) (some ⟨W.heap.size, 0, none⟩) (List.replicate n 0) := fun i x hx => by
  obtain ⟨hlt, hx⟩ := List.getElem?_eq_some_iff.1 hx
  have hlt' : i < n := by simpa using hlt
  obtain rfl : x = 0 := by rw [← hx]; simp
  refine ⟨_, byteV 0, rfl, ho, ?_, rfl⟩
  have hadd : (⟨W.heap.size, 0, none⟩ : Addr).add i = ⟨W.heap.size, i, none⟩ := by unfold Addr.add; split <;> simp_all
  rw [hadd, cell_of_row _ _ _ _ _ _ (heap_alloc_new W _), ← Array.getElem?_toList]
  simp [zeros, toList_madeCells_one, hlt', byteV]

/-! ### append of one element onto a row of the call's own -/
section
variable {P : Program}
theorem news_one {w : World} {b : Nat} {e : TypeId} {u : Value} (hb : Blk w b e #[u]) : ∀ j q, [u][j]? = some q → w.cell? ((⟨b, 0, none⟩ : Addr).add j) = some q := fun j q hq => by
  match j, hq with
  | 0, hq =>
    have := hb.cell 0
    simp at this hq
    subst hq
    exact this
theorem own_form {w : World} {base : Nat} {e : TypeId} {size n : Nat} {v : Value} {xs : List Value} (h : w.ownsRow base e size v n xs) : ∃ A c, v = .slice A n c ∧ n ≤ c ∧ c ≤ 9223372036854775807 := by
  rcases h.2 with ⟨rfl, rfl⟩ | ⟨g, cap, cur, rfl, _, _, h1, h2, _⟩
  · exact ⟨none, 0, rfl, by omega, by omega⟩
  · exact ⟨_, cap, rfl, h1, h2⟩
theorem wpList_push {w : World} {ops : Array Oper} {rest : List Oper} {o : Oper} {a : Act} {Q : Exit → Act → World → Prop} (hgd : o.guard = none) (s x : Operand) (t : TypeId)
    (ho : o.op = .call { callee := .builtin .append, args := #[s, x], argTypes := #[t, t] })
    (base : Nat) (e : TypeId) (z : Value) (bytes : Nat) (ht : P.underlying t = some (.slice e)) (hinfo : (P.info? e).map (fun i => (i.zero, i.size, i.bytes)) = some (some z, 1, bytes)) (hz1 : z.cells.size = 1)
    (v : Value) (xs : List Value) (hs : a.eval s = v) (hown : w.ownsRow base e 1 v xs.length xs) (b : Nat) (u : Value) (hx : a.eval x = .slice (some ⟨b, 0, none⟩) 1 1) (hb : Blk w b e #[u]) (h1 : u.oneCell' = true)
    (h63 : xs.length + 1 ≤ 9223372036854775807) (hbytes : (xs.length + 1) * bytes ≤ 140737488355328) (hbase : base ≤ w.heap.size)
    (h : ∀ (A' : Option Addr) (c' : Nat) w', w'.ownsRow base e 1 (.slice A' (xs.length + 1) c') (xs ++ [u]).length (xs ++ [u]) → w.grownBy w' v.ownBlock → ((Value.slice A' (xs.length + 1) c').ownBlock = v.ownBlock ∨ ∃ k, (Value.slice A' (xs.length + 1) c').ownBlock = some k ∧ w.heap.size ≤ k) → wpList P ops Q rest (a.put o.dst (.slice A' (xs.length + 1) c')) w') :
    wpList P ops Q (o :: rest) a w := by
  obtain ⟨i, hi, hz, hsz, hby⟩ := info_parts hinfo
  refine wpList_append_own_at w hgd s x t ho base e i z 1 bytes ht hi hz hsz hby hz1 (by omega) v xs.length xs hs hown ⟨b, 0, none⟩ 1 1 [u] hx rfl (news_one hb) (by simpa using h1) h63 hbytes hbase ?_
  intro v' w' h2 h3 _ h5
  obtain ⟨A', c', rfl, _, _⟩ := own_form h2
  refine h A' c' w' (by simpa using h2) h3 ?_
  rcases h5 with h5 | h5
  · exact .inl h5
  · exact .inr ⟨_, h5, Nat.le_refl _⟩
theorem step_push {w : World} {ops : Array Oper} {o : Oper} {a : Act} {K : Act → World → Prop} {Q : Exit → Act → World → Prop} {E : Prop} (hgd : o.guard = none) (s x : Operand) (t : TypeId)
    (ho : o.op = .call { callee := .builtin .append, args := #[s, x], argTypes := #[t, t] })
    (base : Nat) (e : TypeId) (z : Value) (bytes : Nat) (ht : P.underlying t = some (.slice e)) (hinfo : (P.info? e).map (fun i => (i.zero, i.size, i.bytes)) = some (some z, 1, bytes)) (hz1 : z.cells.size = 1)
    (v : Value) (xs : List Value) (hs : a.eval s = v) (hown : w.ownsRow base e 1 v xs.length xs) (b : Nat) (u : Value) (hx : a.eval x = .slice (some ⟨b, 0, none⟩) 1 1) (hb : Blk w b e #[u]) (h1 : u.oneCell' = true)
    (h63 : xs.length + 1 ≤ 9223372036854775807) (hbytes : (xs.length + 1) * bytes ≤ 140737488355328) (hbase : base ≤ w.heap.size)
    (h : ∀ (A' : Option Addr) (c' : Nat) w', w'.ownsRow base e 1 (.slice A' (xs.length + 1) c') (xs ++ [u]).length (xs ++ [u]) → w.grownBy w' v.ownBlock → ((Value.slice A' (xs.length + 1) c').ownBlock = v.ownBlock ∨ ∃ k, (Value.slice A' (xs.length + 1) c').ownBlock = some k ∧ w.heap.size ≤ k) → K (a.put o.dst (.slice A' (xs.length + 1) c')) w') :
    if Region.wanted o (yielded ops a.tmps) = true then Oper.wp P o a w K Q else E := by
  have hw : Region.wanted o (yielded ops a.tmps) = true := by simp [Region.wanted, hgd]
  rw [if_pos hw]
  obtain ⟨i, hi, hz, hsz, hby⟩ := info_parts hinfo
  refine wp_append_lies w s x t ho base e i z 1 bytes ht hi hz hsz hby hz1 (by omega) v xs.length xs hs hown ⟨b, 0, none⟩ 1 1 [u] hx rfl (news_one hb) (by simpa using h1) (by omega) h63 hbytes hbase w.heap.size rfl ?_
  intro g cap w' h2 h3 h4 _
  refine h (some ⟨g, 0, none⟩) cap w' (by simpa using h2) h3 ?_
  rcases h4 with h4 | h4
  · exact .inl h4.symm
  · exact .inr ⟨g, rfl, by omega⟩
end
/-- append of a slice that reads as a list, onto a row of the call's own; nil and empty let in. -/
theorem run_append_RR {P : Program} (w : World) (base : Nat) (t ty e : TypeId) (z : Value) (bytes : Nat) (ht : P.underlying t = some (.slice e)) (hinfo : (P.info? e).map (fun i => (i.zero, i.size, i.bytes)) = some (some z, 1, bytes)) (hz1 : z.cells.size = 1)
    (v : Value) (xs : List Value) (hown : w.ownsRow base e 1 v xs.length xs) {α : Type} {enc : α → Value} (henc : ∀ y, (enc y).oneCell' = true) {ok : Nat → Prop} (A : Option Addr) (c : Nat) (ys : List α) (hr : RR (lit enc) ok w A ys)
    (h63 : xs.length + ys.length ≤ 9223372036854775807) (hbytes : (xs.length + ys.length) * bytes ≤ 140737488355328) (hbase : base ≤ w.heap.size) :
    ∃ A' c' w', (Builtin.append_ #[t, t] ty #[v, .slice A ys.length c]).run P w = .ok (.slice A' (xs.length + ys.length) c') w' ∧ w'.ownsRow base e 1 (.slice A' (xs.length + ys.length) c') (xs ++ ys.map enc).length (xs ++ ys.map enc) ∧ w.grownBy w' v.ownBlock ∧
      ((Value.slice A' (xs.length + ys.length) c').ownBlock = v.ownBlock ∨ ∃ k, (Value.slice A' (xs.length + ys.length) c').ownBlock = some k ∧ w.heap.size ≤ k) := by
  obtain ⟨i, hi, hz, hsz, hby⟩ := info_parts hinfo
  rcases A with _ | ad
  · have hn : ys = [] := by
      cases ys with
      | nil => rfl
      | cons y r => obtain ⟨ad, v, h, _⟩ := hr 0 y rfl; cases h
    subst hn
    obtain ⟨A', c', rfl, _, _⟩ := own_form hown
    refine ⟨A', c', w, ?_, by simpa using hown, grownBy_refl _ _, .inl rfl⟩
    rcases hown.2 with ⟨hv, hx⟩ | ⟨g, cap, cur, hv, _, _, hnc, _⟩
    · injection hv with e1 e2 e3
      subst e1 e3
      have : xs = [] := List.eq_nil_of_length_eq_zero hx
      subst this
      simp [Builtin.append_, run_underlying ht, sizeOf, typeInfo, hi, Builtin.lenOf, Builtin.firstCells]
    · injection hv with e1 e2 e3
      subst e1 e3
      simp [Builtin.append_, run_underlying ht, sizeOf, typeInfo, hi, Builtin.lenOf, Builtin.firstCells, hnc, storeCells]
  · have hcells : ∀ j u, (ys.map enc)[j]? = some u → w.cell? (ad.add j) = some u := by
      intro j u hu
      rw [List.getElem?_map] at hu
      cases hy : ys[j]? with
      | none => rw [hy] at hu; cases hu
      | some y =>
        rw [hy] at hu
        obtain ⟨ad', v', hA, _, hc, hv⟩ := hr j y hy
        injection hA with hA
        subst hA
        have hv : v' = enc y := hv
        rw [hc, hv]
        exact hu
    obtain ⟨v', w', hrun, h2, h3, _, h5⟩ := run_append_own_at (P := P) w base t ty e i z 1 bytes ht hi hz hsz hby hz1 (by omega) v xs.length xs hown ad ys.length c (ys.map enc) (by simp) hcells (fun u hu => by obtain ⟨y, _, rfl⟩ := List.mem_map.1 hu; exact henc y) h63 hbytes hbase
    obtain ⟨A', c', rfl, _, _⟩ := own_form h2
    refine ⟨A', c', w', hrun, by simpa using h2, h3, ?_⟩
    rcases h5 with h5 | h5
    · exact .inl h5
    · exact .inr ⟨_, h5, Nat.le_refl _⟩
theorem wp_append_RR {P : Program} {w : World} {o : Oper} {a : Act} {K : Act → World → Prop} {Q : Exit → Act → World → Prop} (s x : Operand) (t : TypeId)
    (ho : o.op = .call { callee := .builtin .append, args := #[s, x], argTypes := #[t, t] })
    (base : Nat) (e : TypeId) (z : Value) (bytes : Nat) (ht : P.underlying t = some (.slice e)) (hinfo : (P.info? e).map (fun i => (i.zero, i.size, i.bytes)) = some (some z, 1, bytes)) (hz1 : z.cells.size = 1)
    (v : Value) (xs : List Value) (hs : a.eval s = v) (hown : w.ownsRow base e 1 v xs.length xs) {α : Type} (enc : α → Value) (henc : ∀ y, (enc y).oneCell' = true) {ok : Nat → Prop} (A : Option Addr) (c : Nat) (ys : List α) (hx : a.eval x = .slice A ys.length c) (hr : RR (lit enc) ok w A ys)
    (h63 : xs.length + ys.length ≤ 9223372036854775807) (hbytes : (xs.length + ys.length) * bytes ≤ 140737488355328) (hbase : base ≤ w.heap.size)
    (h : ∀ (A' : Option Addr) (c' : Nat) w', w'.ownsRow base e 1 (.slice A' (xs.length + ys.length) c') (xs ++ ys.map enc).length (xs ++ ys.map enc) → w.grownBy w' v.ownBlock → ((Value.slice A' (xs.length + ys.length) c').ownBlock = v.ownBlock ∨ ∃ k, (Value.slice A' (xs.length + ys.length) c').ownBlock = some k ∧ w.heap.size ≤ k) → K (a.put o.dst (.slice A' (xs.length + ys.length) c')) w') :
    o.wp P a w K Q := by
  obtain ⟨A', c', w', hrun, h2, h3, h4⟩ := run_append_RR (P := P) w base t o.type e z bytes ht hinfo hz1 v xs hown henc A c ys hr h63 hbytes hbase
  unfold Oper.wp execOp
  simp only [ho, resolve, invoke, builtin, Sem.run_bind, Sem.run_pure, Result.andThen_ok, List.map_toArray, List.map_cons, List.map_nil, hs, hx, hrun]
  exact h A' c' w' h2 h3 h4
theorem wpList_append_RR {P : Program} {w : World} {ops : Array Oper} {rest : List Oper} {o : Oper} {a : Act} {Q : Exit → Act → World → Prop} (hgd : o.guard = none) (s x : Operand) (t : TypeId)
    (ho : o.op = .call { callee := .builtin .append, args := #[s, x], argTypes := #[t, t] })
    (base : Nat) (e : TypeId) (z : Value) (bytes : Nat) (ht : P.underlying t = some (.slice e)) (hinfo : (P.info? e).map (fun i => (i.zero, i.size, i.bytes)) = some (some z, 1, bytes)) (hz1 : z.cells.size = 1)
    (v : Value) (xs : List Value) (hs : a.eval s = v) (hown : w.ownsRow base e 1 v xs.length xs) {α : Type} (enc : α → Value) (henc : ∀ y, (enc y).oneCell' = true) {ok : Nat → Prop} (A : Option Addr) (c : Nat) (ys : List α) (hx : a.eval x = .slice A ys.length c) (hr : RR (lit enc) ok w A ys)
    (h63 : xs.length + ys.length ≤ 9223372036854775807) (hbytes : (xs.length + ys.length) * bytes ≤ 140737488355328) (hbase : base ≤ w.heap.size)
    (h : ∀ (A' : Option Addr) (c' : Nat) w', w'.ownsRow base e 1 (.slice A' (xs.length + ys.length) c') (xs ++ ys.map enc).length (xs ++ ys.map enc) → w.grownBy w' v.ownBlock → ((Value.slice A' (xs.length + ys.length) c').ownBlock = v.ownBlock ∨ ∃ k, (Value.slice A' (xs.length + ys.length) c').ownBlock = some k ∧ w.heap.size ≤ k) → wpList P ops Q rest (a.put o.dst (.slice A' (xs.length + ys.length) c')) w') :
    wpList P ops Q (o :: rest) a w :=
  wpList_plain hgd fun K hK => wp_append_RR s x t ho base e z bytes ht hinfo hz1 v xs hs hown enc henc A c ys hx hr h63 hbytes hbase fun A' c' w' h2 h3 h4 => hK _ _ (h A' c' w' h2 h3 h4)

/-- append of a string's bytes. -/
theorem strCells_bytes (s : List UInt8) : Lib.strCells ⟨s.toArray⟩ = s.map byteV := by
  simp [Lib.strCells, byteV]
theorem wpList_append_str {P : Program} {w : World} {ops : Array Oper} {rest : List Oper} {o : Oper} {a : Act} {Q : Exit → Act → World → Prop} (hgd : o.guard = none) (sl x : Operand) (t u : TypeId)
    (ho : o.op = .call { callee := .builtin .append, args := #[sl, x], argTypes := #[t, u] })
    (base : Nat) (e : TypeId) (ht : P.underlying t = some (.slice e)) (hu : P.underlying u = some .string) (hinfo : (P.info? e).map (fun i => (i.zero, i.size, i.bytes)) = some (some (.int .u8 0), 1, 1))
    (v : Value) (xs : List Value) (hs : a.eval sl = v) (hown : w.ownsRow base e 1 v xs.length xs) (s : List UInt8) (hx : a.eval x = .string ⟨s.toArray⟩)
    (hbytes : xs.length + s.length ≤ 140737488355328) (hbase : base ≤ w.heap.size)
    (h : ∀ (A' : Option Addr) (c' : Nat) w', w'.ownsRow base e 1 (.slice A' (xs.length + s.length) c') (xs ++ s.map byteV).length (xs ++ s.map byteV) → w.grownBy w' v.ownBlock → wpList P ops Q rest (a.put o.dst (.slice A' (xs.length + s.length) c')) w') :
    wpList P ops Q (o :: rest) a w := by
  obtain ⟨i, hi, hz, hsz, hby⟩ := info_parts hinfo
  have hsize : (⟨s.toArray⟩ : ByteArray).size = s.length := by simp [ByteArray.size]
  refine Lib.wpList_append_own_string w hgd sl x t u ho base e i ht hu hi hz hsz hby v xs.length xs hs hown ⟨s.toArray⟩ hx (by rw [hsize]; simp only [maxLen]; omega) (by rw [hsize]; exact hbytes) hbase ?_
  intro v' w' h2 h3 _
  rw [hsize, strCells_bytes] at h2
  obtain ⟨A', c', rfl, _, _⟩ := own_form h2
  exact h A' c' w' (by simpa using h2) h3

theorem own_RR {α : Type} {enc : α → Value} {w : World} {B : Nat} {e : TypeId} {A : Option Addr} {n c : Nat} {l : List α} (h : w.ownsRow B e 1 (.slice A n c) n (l.map enc)) {ok : Nat → Prop} (ho : ∀ b, (Value.slice A n c).ownBlock = some b → ok b) : RR (lit enc) ok w A l := by
  intro i x hx
  have hlen : l.length = n := by simpa using h.1
  have hlt : i < l.length := (List.getElem?_eq_some_iff.1 hx).1
  obtain ⟨g, cap, hv, _, _⟩ := h.form (by omega)
  have hA : A = some ⟨g, 0, none⟩ := by injection hv
  subst hA
  refine ⟨_, enc x, rfl, ho g rfl, ?_, rfl⟩
  exact h.cells (g := g) rfl i (enc x) (by rw [List.getElem?_map, hx]; rfl)
theorem grownBy_set {a b : World} {g : Nat} (h : a.grownBy b (some g)) (j : Nat) (u : Value) : a.grownBy (b.setCell ⟨g, j, none⟩ u) (some g) :=
  grownBy_trans h ⟨rfl, rfl, rfl, by simp [World.setCell], fun k _ hk => Below.heap_setCell _ _ _ _ (fun e => hk (by rw [e]))⟩
theorem grownBy_drew {w w' : World} {row : Option Nat} (h : w.grownBy w' row) : w.grownBy w'.drew row := ⟨h.os, h.tape, h.output, h.size, h.block⟩

/-! ### lists of values that say lists -/
def Each {α : Type} (R : Say α) (ok : Nat → Prop) (w : World) (cs : List Value) (xs : List α) : Prop :=
  cs.length = xs.length ∧ ∀ (i : Nat) (v : Value) (x : α), cs[i]? = some v → xs[i]? = some x → R ok w v x
section
variable {α : Type} {R : Say α} {ok ok' : Nat → Prop} {w w' : World} {cs : List Value} {xs : List α}
theorem Each.move (h : Each R ok w cs xs) (hR : Steady R) (hm : Mv ok ok' w w') : Each R ok' w' cs xs := ⟨h.1, fun i v x h1 h2 => hR.move (h.2 i v x h1 h2) hm⟩
theorem Each.keep (h : Each R ok w cs xs) (hR : Steady R) (hk : Keep ok w w') : Each R ok w' cs xs := h.move hR hk.mv
theorem Each.nil (R : Say α) (ok : Nat → Prop) (w : World) : Each R ok w [] [] := ⟨rfl, fun i v x h1 _ => by simp at h1⟩
theorem Each.snoc {v : Value} {x : α} (h : Each R ok w cs xs) (hv : R ok w v x) : Each R ok w (cs ++ [v]) (xs ++ [x]) := by
  refine ⟨by simp [h.1], fun i u y h1 h2 => ?_⟩
  by_cases hi : i < cs.length
  · rw [List.getElem?_append_left hi] at h1
    rw [List.getElem?_append_left (by rw [← h.1]; exact hi)] at h2
    exact h.2 i u y h1 h2
  · rw [List.getElem?_append_right (by omega)] at h1
    rw [List.getElem?_append_right (by rw [← h.1]; omega)] at h2
    have e1 := (List.getElem?_eq_some_iff.1 h1).1
    simp at e1
    have e0 : i - cs.length = 0 := by omega
    rw [e0] at h1
    rw [← h.1, e0] at h2
    simp at h1 h2
    subst h1 h2
    exact hv
end
theorem own_each {α : Type} {R : Say α} {w : World} {B : Nat} {e : TypeId} {A : Option Addr} {n c : Nat} {cs : List Value} {xs : List α} (h : w.ownsRow B e 1 (.slice A n c) n cs) {ok ok' : Nat → Prop} (hE : Each R ok w cs xs) (hR : Steady R) (hi : ∀ b, ok b → ok' b) (ho : ∀ b, (Value.slice A n c).ownBlock = some b → ok' b) : RR R ok' w A xs := by
  intro i x hx
  have hlen : cs.length = n := by simpa using h.1
  have hlt : i < xs.length := (List.getElem?_eq_some_iff.1 hx).1
  have hcl := hE.1
  obtain ⟨g, cap, hv, _, _⟩ := h.form (by omega)
  have hA : A = some ⟨g, 0, none⟩ := by injection hv
  subst hA
  have hc : cs[i]? = some cs[i] := List.getElem?_eq_getElem (by omega)
  exact ⟨_, cs[i], rfl, ho g rfl, h.cells (g := g) rfl i _ hc, hR.mono (hE.2 i _ x hc hx) (fun b _ hb => hi b hb)⟩
theorem own_SL {α : Type} {enc : α → Value} {w : World} {B : Nat} {e : TypeId} {v : Value} {l : List α} (h : w.ownsRow B e 1 v (l.map enc).length (l.map enc)) {ok : Nat → Prop} (ho : ∀ b, v.ownBlock = some b → ok b) : SL (lit enc) ok w v l := by
  rw [List.length_map] at h
  obtain ⟨A, c, rfl, h1, h2⟩ := own_form h
  exact ⟨A, c, rfl, h1, h2, own_RR h ho⟩
theorem own_SL_each {α : Type} {R : Say α} {w : World} {B : Nat} {e : TypeId} {v : Value} {cs : List Value} {xs : List α} (h : w.ownsRow B e 1 v cs.length cs) {ok ok' : Nat → Prop} (hE : Each R ok w cs xs) (hR : Steady R) (hi : ∀ b, ok b → ok' b) (ho : ∀ b, v.ownBlock = some b → ok' b) : SL R ok' w v xs := by
  rw [hE.1] at h
  obtain ⟨A, c, rfl, h1, h2⟩ := own_form h
  exact ⟨A, c, rfl, h1, h2, own_each h hE hR hi ho⟩

/-! ### string(b) -/
theorem spot_none {w : World} {p : Addr} {v : Value} (h : w.cell? p = some v) : p.spot = none := by
  unfold World.cell? at h
  split at h
  · split at h
    · cases h
    · rename_i hs
      cases hp : p.spot with
      | none => rfl
      | some q => rw [hp] at hs; simp at hs
  · cases h
theorem strOfNums_bytes (xs : List UInt8) : strOfNums (xs.map fun b => (b.toNat : Int)) = ⟨xs.toArray⟩ := by
  unfold strOfNums
  congr 1
  rw [List.map_map]
  congr 1
  refine (List.map_congr_left (g := id) fun a _ => ?_).trans (List.map_id _)
  simp
theorem run_to_string {P : Program} {src e dst : TypeId} (hs : P.underlying src = some (.slice e)) (he : P.underlying e = some (.int .u8)) (hd : P.underlying dst = some .string) {ok : Nat → Prop} {w : World} {A : Option Addr} {xs : List UInt8} (c : Nat) (h : RR (lit byteV) ok w A xs) :
    (convert src dst (.slice A xs.length c)).run P w = .ok (.string ⟨xs.toArray⟩) w := by
  cases xs with
  | nil =>
    cases A with
    | none => rw [run_convert_bytes_nil w src e hs he _ _ dst hd]; rfl
    | some ad =>
      rw [run_convert_bytes_string w src dst e _ _ c hs he hd]
      simp [Conv.bytesToString, loadCells, loadCellsFrom]
      rfl
  | cons x r =>
    obtain ⟨ad, rfl, _, hc⟩ := RB.at h (by simp)
    have h0 := spot_none (hc 0 x rfl)
    obtain ⟨b, off, spot⟩ := ad
    simp only [Addr.add, if_true] at h0
    subst h0
    have := run_convert_bytes_arg (P := P) w src e hs he b off (x :: r).length c ((x :: r).map fun q => (q.toNat : Int)) (by simp) (fun i hi => ?_) dst hd
    · rw [this, strOfNums_bytes]
    · have hx : (x :: r)[i]? = some (x :: r)[i] := List.getElem?_eq_getElem hi
      have := hc i _ hx
      have e1 : (⟨b, off, none⟩ : Addr).add i = ⟨b, off + i, none⟩ := by unfold Addr.add; split <;> simp_all
      rw [e1] at this
      rw [this, List.getD_eq_getElem?_getD, List.getElem?_map, hx]
      rfl

end Go.Proofs.YtoeepfmmceilaaaGreatDoor
