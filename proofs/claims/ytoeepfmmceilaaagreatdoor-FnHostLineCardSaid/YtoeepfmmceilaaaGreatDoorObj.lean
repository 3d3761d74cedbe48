/- A struct in a block of the call's own, with rows of the call's own in its fields: what becomes of it when a row grows, or when something else turns. -/
import Derived.Test.YtoeepfmmceilaaaGreatDoorBase
set_option linter.unusedVariables false
set_option linter.unusedSimpArgs false
namespace Go.Proofs.YtoeepfmmceilaaaGreatDoor
open Go.RowKit

/-- A field that holds a row of the call's own: its place, the elements' type, the value, the elements. -/
structure RowF where
  slot : Nat
  elem : TypeId
  val : Value
  cells : List Value

/-- What is no block of the struct's, of its rows, or of E. -/
def Out (E : List Nat) (g : Nat) (rows : List RowF) : Nat → Prop := fun b => b ≠ g ∧ b ∉ E ∧ ∀ r ∈ rows, r.val.ownBlock ≠ some b

structure ObjM (B : Nat) (E : List Nat) (w : World) (g : Nat) (t : TypeId) (cs : Array Value) (rows : List RowF) : Prop where
  blk : Blk w g t cs
  lo : B ≤ g
  row : ∀ r ∈ rows, cs[r.slot]? = some r.val ∧ w.ownsRow B r.elem 1 r.val r.cells.length r.cells ∧ r.elem ≠ t
  types : rows.Pairwise (fun a b => a.elem ≠ b.elem)
  slots : rows.Pairwise (fun a b => a.slot ≠ b.slot)
  out : ∀ b ∈ E, b < w.heap.size ∧ b ≠ g ∧ ∀ r ∈ rows, r.val.ownBlock ≠ some b

theorem own_block_lt {w : World} {B e size n : Nat} {v : Value} {xs : List Value} (h : w.ownsRow B e size v n xs) {k : Nat} (hk : v.ownBlock = some k) : B ≤ k ∧ k < w.heap.size := h.lt k hk
theorem own_typed_ {w : World} {B : Nat} {e : TypeId} {size n : Nat} {v : Value} {xs : List Value} (h : w.ownsRow B e size v n xs) {k : Nat} (hk : v.ownBlock = some k) : ∃ cells, Blk w k e cells := by
  rcases h.2 with ⟨rfl, _⟩ | ⟨g, cap, cur, rfl, _, hg, _⟩
  · simp [Value.ownBlock] at hk
  · simp [Value.ownBlock] at hk
    subst hk
    exact ⟨cur, hg⟩
theorem Blk.ne_ {w : World} {g g' : Nat} {t t' : TypeId} {cs cs' : Array Value} (h : Blk w g t cs) (h' : Blk w g' t' cs') (hne : t ≠ t') : g ≠ g' := by
  rintro rfl
  unfold Blk at h h'
  rw [h] at h'
  injection h' with h'
  injection h' with _ ht
  exact hne ht
theorem own_ne_own {w : World} {B B' : Nat} {e e' : TypeId} {s s' n n' : Nat} {v v' : Value} {xs xs' : List Value} (h : w.ownsRow B e s v n xs) (h' : w.ownsRow B' e' s' v' n' xs') (hne : e ≠ e') {k : Nat} (hk : v.ownBlock = some k) : v'.ownBlock ≠ some k := by
  intro hk'
  obtain ⟨c, hc⟩ := own_typed_ h hk
  obtain ⟨c', hc'⟩ := own_typed_ h' hk'
  exact hc.ne_ hc' hne rfl
theorem own_ne_blk {w : World} {B : Nat} {e t : TypeId} {s n g : Nat} {v : Value} {xs : List Value} {cs : Array Value} (h : w.ownsRow B e s v n xs) (hg : Blk w g t cs) (hne : e ≠ t) : v.ownBlock ≠ some g := by
  intro hk
  obtain ⟨c, hc⟩ := own_typed_ h hk
  exact hc.ne_ hg hne rfl
/-- A row stands where its own block does. -/
theorem own_move_ {w w' : World} {B : Nat} {e : TypeId} {size n : Nat} {v : Value} {xs : List Value} (h : w.ownsRow B e size v n xs) (hm : ∀ k, v.ownBlock = some k → w'.heap[k]? = w.heap[k]?) : w'.ownsRow B e size v n xs := by
  refine ⟨h.1, ?_⟩
  rcases h.2 with hn | ⟨g, cap, cur, rfl, hb, hg, rest⟩
  · exact .inl hn
  · exact .inr ⟨g, cap, cur, rfl, hb, (hm g rfl).trans hg, rest⟩

section
variable {B : Nat} {E : List Nat} {w w' : World} {g : Nat} {t : TypeId} {cs : Array Value} {rows : List RowF}
theorem ObjM.fresh (h : ObjM B E w g t cs rows) : ∀ b, w.heap.size ≤ b → Out E g rows b := fun b hb =>
  ⟨by have := h.blk.lt; omega, fun hE => by have := (h.out b hE).1; omega, fun r hr hk => by have := (own_block_lt (h.row r hr).2.1 hk).2; omega⟩
/-- Something turns that is none of the struct's. -/
theorem ObjM.keep (h : ObjM B E w g t cs rows) (hs : w.heap.size ≤ w'.heap.size) (hg : w'.heap[g]? = w.heap[g]?) (hr : ∀ r ∈ rows, ∀ k, r.val.ownBlock = some k → w'.heap[k]? = w.heap[k]?) : ObjM B E w' g t cs rows :=
  ⟨hg.trans h.blk, h.lo, fun r hm => ⟨(h.row r hm).1, own_move_ (h.row r hm).2.1 (hr r hm), (h.row r hm).2.2⟩, h.types, h.slots, fun b hb => ⟨Nat.lt_of_lt_of_le (h.out b hb).1 hs, (h.out b hb).2⟩⟩
theorem ObjM.side (h : ObjM B E w g t cs rows) {b : Nat} (hb : b ∈ E) (hw : w.grownBy w' (some b)) : ObjM B E w' g t cs rows :=
  h.keep hw.size (hw.block g h.blk.lt (fun e => (h.out b hb).2.1 (by injection e with e; exact e.symm)))
    (fun r hr k hk => hw.block k (own_block_lt (h.row r hr).2.1 hk).2 (fun e => (h.out b hb).2.2 r hr (by rw [hk, e])))
theorem ObjM.below (h : ObjM B E w g t cs rows) (hw : Below w.heap.size w w') : ObjM B E w' g t cs rows :=
  h.keep hw.size (hw.block g h.blk.lt) (fun r hr k hk => hw.block k (own_block_lt (h.row r hr).2.1 hk).2)
theorem ObjM.drewN (h : ObjM B E w g t cs rows) (n : Nat) : ObjM B E (w.drewN n) g t cs rows := h.keep (Nat.le_refl _) rfl (fun _ _ _ _ => rfl)
theorem ObjM.alloc (h : ObjM B E w g t cs rows) (o : Obj) : ObjM B E (w.alloc o) g t cs rows := h.below ((Below.refl _ _).alloc (Nat.le_refl _) o)
/-- Facts on other blocks stand over a change of a block of E's. -/
theorem Out.side (h : ObjM B E w g t cs rows) {b : Nat} (hb : b ∈ E) (hw : w.grownBy w' (some b)) : Keep (Out E g rows) w w' := Keep.of_grown hw (fun ho => ho.2.1 hb)
/-- A plain field is stored. -/
theorem ObjM.store (h : ObjM B E w g t cs rows) (j : Nat) (hj : ∀ r ∈ rows, r.slot ≠ j) (u : Value) : ObjM B E (w.setCell ⟨g, j, none⟩ u) g t (cs.setIfInBounds j u) rows := by
  refine ⟨h.blk.set_ j u, h.lo, fun r hr => ⟨?_, ?_, (h.row r hr).2.2⟩, h.types, h.slots, fun b hb => ⟨by have := (h.out b hb).1; simpa [World.setCell] using this, (h.out b hb).2⟩⟩
  · rw [Array.getElem?_setIfInBounds_ne (hj r hr).symm]
    exact (h.row r hr).1
  · exact own_move_ (h.row r hr).2.1 (fun k hk => Below.heap_setCell _ _ _ _ (fun e => own_ne_blk (h.row r hr).2.1 h.blk (h.row r hr).2.2 (by rw [hk, e])))
theorem Out.store (u : Value) (j : Nat) : Keep (Out E g rows) w (w.setCell ⟨g, j, none⟩ u) := (Keep.refl _ w).setCell (fun _ ho => ho.1 rfl) u

/-- A row has grown (an append by the laws of the call's own rows) and is stored back. -/
theorem ObjM.push {pre post : List RowF} {r : RowF} (h : ObjM B E w g t cs (pre ++ r :: post)) {v' : Value} {cells' : List Value} {w1 : World}
    (hown : w1.ownsRow B r.elem 1 v' cells'.length cells') (hw : w.grownBy w1 r.val.ownBlock) (hat : v'.ownBlock = r.val.ownBlock ∨ ∃ k, v'.ownBlock = some k ∧ w.heap.size ≤ k) :
    ObjM B E (w1.setCell ⟨g, r.slot, none⟩ v') g t (cs.setIfInBounds r.slot v') (pre ++ { r with val := v', cells := cells' } :: post) ∧
    (∀ b, b < w.heap.size → Out E g (pre ++ r :: post) b → Out E g (pre ++ { r with val := v', cells := cells' } :: post) b) ∧
    Keep (Out E g (pre ++ r :: post)) w (w1.setCell ⟨g, r.slot, none⟩ v') := by
  have hr := h.row r (by simp)
  have hother : ∀ q, q ∈ pre ∨ q ∈ post → q ∈ pre ++ r :: post ∧ q.elem ≠ r.elem ∧ q.slot ≠ r.slot := by
    intro q hq
    have ht := List.pairwise_append.1 h.types
    have hs := List.pairwise_append.1 h.slots
    rcases hq with hq | hq
    · exact ⟨by simp [hq], ht.2.2 q hq r (by simp), hs.2.2 q hq r (by simp)⟩
    · exact ⟨by simp [hq], fun e => (List.pairwise_cons.1 ht.2.1).1 q hq e.symm, fun e => (List.pairwise_cons.1 hs.2.1).1 q hq e.symm⟩
  have hgne : r.val.ownBlock ≠ some g := own_ne_blk hr.2.1 h.blk hr.2.2
  have hblk1 : Blk w1 g t cs := (hw.block g h.blk.lt (fun e => hgne e.symm)).trans h.blk
  have hvne : v'.ownBlock ≠ some g := own_ne_blk hown hblk1 hr.2.2
  have hlt : r.slot < cs.size := by
    rcases Nat.lt_or_ge r.slot cs.size with q | q
    · exact q
    · have := hr.1; rw [Array.getElem?_eq_none q] at this; cases this
  have hmv : ∀ k, k ≠ g → k < w.heap.size → some k ≠ r.val.ownBlock → (w1.setCell ⟨g, r.slot, none⟩ v').heap[k]? = w.heap[k]? := fun k hk hlt hne =>
    (Below.heap_setCell _ _ _ _ hk).trans (hw.block k hlt hne)
  refine ⟨⟨hblk1.set_ _ _, h.lo, ?_, ?_, ?_, ?_⟩, ?_, ?_⟩
  · intro q hq
    rcases (by simpa using hq : q ∈ pre ∨ q = { r with val := v', cells := cells' } ∨ q ∈ post) with hq | rfl | hq
    · obtain ⟨hm, he, hs⟩ := hother q (.inl hq)
      refine ⟨?_, own_move_ (h.row q hm).2.1 (fun k hk => hmv k ?_ (own_block_lt (h.row q hm).2.1 hk).2 ?_), (h.row q hm).2.2⟩
      · rw [Array.getElem?_setIfInBounds_ne hs.symm]; exact (h.row q hm).1
      · rintro rfl; exact own_ne_blk (h.row q hm).2.1 h.blk (h.row q hm).2.2 hk
      · intro e; exact own_ne_own (h.row q hm).2.1 hr.2.1 he hk e.symm
    · refine ⟨by simp [hlt], own_move_ hown (fun k hk => Below.heap_setCell _ _ _ _ (fun e => hvne (by rw [hk, e]))), hr.2.2⟩
    · obtain ⟨hm, he, hs⟩ := hother q (.inr hq)
      refine ⟨?_, own_move_ (h.row q hm).2.1 (fun k hk => hmv k ?_ (own_block_lt (h.row q hm).2.1 hk).2 ?_), (h.row q hm).2.2⟩
      · rw [Array.getElem?_setIfInBounds_ne hs.symm]; exact (h.row q hm).1
      · rintro rfl; exact own_ne_blk (h.row q hm).2.1 h.blk (h.row q hm).2.2 hk
      · intro e; exact own_ne_own (h.row q hm).2.1 hr.2.1 he hk e.symm
  · have := h.types
    simp only [List.pairwise_append, List.pairwise_cons, List.mem_cons] at this ⊢
    refine ⟨this.1, this.2.1, fun a ha b hb => ?_⟩
    rcases hb with rfl | hb
    · exact this.2.2 a ha r (.inl rfl)
    · exact this.2.2 a ha b (.inr hb)
  · have := h.slots
    simp only [List.pairwise_append, List.pairwise_cons, List.mem_cons] at this ⊢
    refine ⟨this.1, this.2.1, fun a ha b hb => ?_⟩
    rcases hb with rfl | hb
    · exact this.2.2 a ha r (.inl rfl)
    · exact this.2.2 a ha b (.inr hb)
  · intro b hb
    have ho := h.out b hb
    refine ⟨by have := hw.size; simp only [World.setCell, Array.size_modify]; omega, ho.2.1, fun q hq => ?_⟩
    rcases (by simpa using hq : q ∈ pre ∨ q = { r with val := v', cells := cells' } ∨ q ∈ post) with hq | rfl | hq
    · exact ho.2.2 q (by simp [hq])
    · rcases hat with e | ⟨k, e, hk⟩
      · show v'.ownBlock ≠ some b
        rw [e]; exact ho.2.2 r (by simp)
      · show v'.ownBlock ≠ some b
        rw [e]; intro e2; injection e2 with e2; omega
    · exact ho.2.2 q (by simp [hq])
  · intro b hb ⟨h1, h2, h3⟩
    refine ⟨h1, h2, fun q hq => ?_⟩
    rcases (by simpa using hq : q ∈ pre ∨ q = { r with val := v', cells := cells' } ∨ q ∈ post) with hq | rfl | hq
    · exact h3 q (by simp [hq])
    · rcases hat with e | ⟨k, e, hk⟩
      · show v'.ownBlock ≠ some b
        rw [e]; exact h3 r (by simp)
      · show v'.ownBlock ≠ some b
        rw [e]; intro e2; injection e2 with e2; omega
    · exact h3 q (by simp [hq])
  · exact ((Keep.refl _ w).grown hw (fun k hk _ ho => ho.2.2 r (by simp) hk)).setCell (fun _ ho => ho.1 rfl) _
end

end Go.Proofs.YtoeepfmmceilaaaGreatDoor
