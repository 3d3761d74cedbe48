/- impl.Message in a block of the call's own, while it is read: its rows, and what stands beside it. -/
import Derived.Test.YtnlkgaobbobakaaObj
import Derived.Test.YtnlkgaobbobakaaRdr
set_option linter.unusedVariables false
set_option linter.unusedSimpArgs false
namespace Go.Proofs.Ytnlkgaobbobakaa
open Go.RowKit

def u32V (n : Nat) : Value := .int .u32 (n : Int)
abbrev msgRows (vI vS vN vT : Value) (cN : List Value) (M : Msg) : List RowF :=
  [⟨1, 48, vI, M.ints.map u32V⟩, ⟨2, 9, vS, M.strings.map strV⟩, ⟨3, 23, vN, cN⟩, ⟨4, 4, vT, M.truths.map Value.bool⟩]
abbrev msgCells (vI vS vN vT vB : Value) (M : Msg) : Array Value := #[.int .i64 M.number, vI, vS, vN, vT, vB]

/-- A message that is being made, in block gm; E: blocks that stand beside it. -/
structure MsgM (B : Nat) (E : List Nat) (w : World) (gm : Nat) (vI vS vN vT vB : Value) (cN : List Value) (M : Msg) : Prop where
  obj : ObjM B E w gm 28 (msgCells vI vS vN vT vB M) (msgRows vI vS vN vT cN M)
  names : Each Strs (Out E gm (msgRows vI vS vN vT cN M)) w cN M.names
  bytes : Byts (Out E gm (msgRows vI vS vN vT cN M)) w vB M.bytes

theorem strs_steady : Steady Strs := SL_steady (lit_steady _)

section
variable {B : Nat} {E : List Nat} {w w' : World} {gm : Nat} {vI vS vN vT vB : Value} {cN : List Value} {M : Msg}
theorem MsgM.below (h : MsgM B E w gm vI vS vN vT vB cN M) (hb : Below w.heap.size w w') : MsgM B E w' gm vI vS vN vT vB cN M :=
  ⟨h.obj.below hb, h.names.keep strs_steady (Keep.of_below hb), bytes_steady.keep h.bytes (Keep.of_below hb)⟩
theorem MsgM.side (h : MsgM B E w gm vI vS vN vT vB cN M) {b : Nat} (hb : b ∈ E) (hw : w.grownBy w' (some b)) : MsgM B E w' gm vI vS vN vT vB cN M :=
  ⟨h.obj.side hb hw, h.names.keep strs_steady (Out.side h.obj hb hw), bytes_steady.keep h.bytes (Out.side h.obj hb hw)⟩
theorem MsgM.drewN (h : MsgM B E w gm vI vS vN vT vB cN M) (n : Nat) : MsgM B E (w.drewN n) gm vI vS vN vT vB cN M :=
  h.below ⟨rfl, rfl, rfl, Nat.le_refl _, fun _ _ => rfl⟩
theorem MsgM.alloc (h : MsgM B E w gm vI vS vN vT vB cN M) (o : Obj) : MsgM B E (w.alloc o) gm vI vS vN vT vB cN M := h.below ((Below.refl _ _).alloc (Nat.le_refl _) o)
theorem MsgM.cell (h : MsgM B E w gm vI vS vN vT vB cN M) : w.cell? ⟨gm, 0, none⟩ = some (.int .i64 M.number) ∧ w.cell? ⟨gm, 1, none⟩ = some vI ∧ w.cell? ⟨gm, 2, none⟩ = some vS ∧ w.cell? ⟨gm, 3, none⟩ = some vN ∧ w.cell? ⟨gm, 4, none⟩ = some vT ∧ w.cell? ⟨gm, 5, none⟩ = some vB := by
  have c := h.obj.blk.cell
  exact ⟨by simpa using c 0, by simpa using c 1, by simpa using c 2, by simpa using c 3, by simpa using c 4, by simpa using c 5⟩
theorem MsgM.ownI (h : MsgM B E w gm vI vS vN vT vB cN M) : w.ownsRow B 48 1 vI (M.ints.map u32V).length (M.ints.map u32V) := (h.obj.row ⟨1, 48, vI, M.ints.map u32V⟩ (by simp)).2.1
theorem MsgM.ownS (h : MsgM B E w gm vI vS vN vT vB cN M) : w.ownsRow B 9 1 vS (M.strings.map strV).length (M.strings.map strV) := (h.obj.row ⟨2, 9, vS, M.strings.map strV⟩ (by simp)).2.1
theorem MsgM.ownN (h : MsgM B E w gm vI vS vN vT vB cN M) : w.ownsRow B 23 1 vN cN.length cN := (h.obj.row ⟨3, 23, vN, cN⟩ (by simp)).2.1
theorem MsgM.ownT (h : MsgM B E w gm vI vS vN vT vB cN M) : w.ownsRow B 4 1 vT (M.truths.map Value.bool).length (M.truths.map Value.bool) := (h.obj.row ⟨4, 4, vT, M.truths.map Value.bool⟩ (by simp)).2.1
/-- What may turn while a field is stored. -/
theorem MsgM.away (h : MsgM B E w gm vI vS vN vT vB cN M) {v u : Value} {w1 : World} (j : Nat) (hv : ∃ r ∈ msgRows vI vS vN vT cN M, r.val = v) (hw : w.grownBy w1 v.ownBlock) :
    Keep (fun b => b < B ∨ b ∈ E) w (w1.setCell ⟨gm, j, none⟩ u) ∧ v.ownBlock ≠ some gm := by
  obtain ⟨r, hr, rfl⟩ := hv
  have h1 := (h.obj.row r hr).2.1
  refine ⟨((Keep.refl _ w).grown hw (fun q e hq ho => ?_)).setCell (fun hlt ho => ?_) u, own_ne_blk h1 h.obj.blk (h.obj.row r hr).2.2⟩
  · rcases ho with ho | ho
    · have := (own_block_lt h1 e).1; omega
    · exact (h.obj.out q ho).2.2 r hr e
  · rcases ho with ho | ho
    · have := h.obj.lo; simp at ho; omega
    · exact (h.obj.out gm ho).2.1 rfl
theorem MsgM.after (h : MsgM B E w gm vI vS vN vT vB cN M) {v : Value} {w1 : World} (hv : ∃ r ∈ msgRows vI vS vN vT cN M, r.val = v) (hw : w.grownBy w1 v.ownBlock) : Blk w1 gm 28 (msgCells vI vS vN vT vB M) :=
  (hw.block gm h.obj.blk.lt (fun e => (h.away (u := v) 0 hv hw).2 e.symm)).trans h.obj.blk
theorem MsgM.pushI (h : MsgM B E w gm vI vS vN vT vB cN M) {v' : Value} {n : Nat} {w1 : World} (hown : w1.ownsRow B 48 1 v' (M.ints.map u32V ++ [u32V n]).length (M.ints.map u32V ++ [u32V n])) (hw : w.grownBy w1 vI.ownBlock) (hat : v'.ownBlock = vI.ownBlock ∨ ∃ k, v'.ownBlock = some k ∧ w.heap.size ≤ k) :
    MsgM B E (w1.setCell ⟨gm, 1, none⟩ v') gm v' vS vN vT vB cN { M with ints := M.ints ++ [n] } ∧
      Mv (Out E gm (msgRows vI vS vN vT cN M)) (Out E gm (msgRows v' vS vN vT cN { M with ints := M.ints ++ [n] })) w (w1.setCell ⟨gm, 1, none⟩ v') := by
  obtain ⟨h1, h2, h3⟩ := ObjM.push (pre := []) (r := ⟨1, 48, vI, M.ints.map u32V⟩) h.obj (cells' := M.ints.map u32V ++ [u32V n]) hown hw hat
  have e : M.ints.map u32V ++ [u32V n] = (M.ints ++ [n]).map u32V := by simp
  rw [e] at h1 h2
  exact ⟨⟨h1, h.names.move strs_steady (Mv.of h2 h3), bytes_steady.move h.bytes (Mv.of h2 h3)⟩, Mv.of h2 h3⟩
theorem MsgM.pushS (h : MsgM B E w gm vI vS vN vT vB cN M) {v' : Value} {n : List UInt8} {w1 : World} (hown : w1.ownsRow B 9 1 v' (M.strings.map strV ++ [strV n]).length (M.strings.map strV ++ [strV n])) (hw : w.grownBy w1 vS.ownBlock) (hat : v'.ownBlock = vS.ownBlock ∨ ∃ k, v'.ownBlock = some k ∧ w.heap.size ≤ k) :
    MsgM B E (w1.setCell ⟨gm, 2, none⟩ v') gm vI v' vN vT vB cN { M with strings := M.strings ++ [n] } ∧
      Mv (Out E gm (msgRows vI vS vN vT cN M)) (Out E gm (msgRows vI v' vN vT cN { M with strings := M.strings ++ [n] })) w (w1.setCell ⟨gm, 2, none⟩ v') := by
  obtain ⟨h1, h2, h3⟩ := ObjM.push (pre := [⟨1, 48, vI, M.ints.map u32V⟩]) (r := ⟨2, 9, vS, M.strings.map strV⟩) h.obj (cells' := M.strings.map strV ++ [strV n]) hown hw hat
  have e : M.strings.map strV ++ [strV n] = (M.strings ++ [n]).map strV := by simp
  rw [e] at h1 h2
  exact ⟨⟨h1, h.names.move strs_steady (Mv.of h2 h3), bytes_steady.move h.bytes (Mv.of h2 h3)⟩, Mv.of h2 h3⟩
theorem MsgM.pushT (h : MsgM B E w gm vI vS vN vT vB cN M) {v' : Value} {n : Bool} {w1 : World} (hown : w1.ownsRow B 4 1 v' (M.truths.map Value.bool ++ [Value.bool n]).length (M.truths.map Value.bool ++ [Value.bool n])) (hw : w.grownBy w1 vT.ownBlock) (hat : v'.ownBlock = vT.ownBlock ∨ ∃ k, v'.ownBlock = some k ∧ w.heap.size ≤ k) :
    MsgM B E (w1.setCell ⟨gm, 4, none⟩ v') gm vI vS vN v' vB cN { M with truths := M.truths ++ [n] } ∧
      Mv (Out E gm (msgRows vI vS vN vT cN M)) (Out E gm (msgRows vI vS vN v' cN { M with truths := M.truths ++ [n] })) w (w1.setCell ⟨gm, 4, none⟩ v') := by
  obtain ⟨h1, h2, h3⟩ := ObjM.push (pre := [⟨1, 48, vI, M.ints.map u32V⟩, ⟨2, 9, vS, M.strings.map strV⟩, ⟨3, 23, vN, cN⟩]) (r := ⟨4, 4, vT, M.truths.map Value.bool⟩) h.obj (cells' := M.truths.map Value.bool ++ [Value.bool n]) hown hw hat
  have e : M.truths.map Value.bool ++ [Value.bool n] = (M.truths ++ [n]).map Value.bool := by simp
  rw [e] at h1 h2
  exact ⟨⟨h1, h.names.move strs_steady (Mv.of h2 h3), bytes_steady.move h.bytes (Mv.of h2 h3)⟩, Mv.of h2 h3⟩
theorem MsgM.pushN (h : MsgM B E w gm vI vS vN vT vB cN M) {v' u : Value} {l : List (List UInt8)} {w1 : World} (hown : w1.ownsRow B 23 1 v' (cN ++ [u]).length (cN ++ [u])) (hw : w.grownBy w1 vN.ownBlock) (hat : v'.ownBlock = vN.ownBlock ∨ ∃ k, v'.ownBlock = some k ∧ w.heap.size ≤ k)
    (hu : Strs (Out E gm (msgRows vI vS vN vT cN M)) w u l) :
    MsgM B E (w1.setCell ⟨gm, 3, none⟩ v') gm vI vS v' vT vB (cN ++ [u]) { M with names := M.names ++ [l] } ∧
      Mv (Out E gm (msgRows vI vS vN vT cN M)) (Out E gm (msgRows vI vS v' vT (cN ++ [u]) { M with names := M.names ++ [l] })) w (w1.setCell ⟨gm, 3, none⟩ v') := by
  obtain ⟨h1, h2, h3⟩ := ObjM.push (pre := [⟨1, 48, vI, M.ints.map u32V⟩, ⟨2, 9, vS, M.strings.map strV⟩]) (r := ⟨3, 23, vN, cN⟩) h.obj (cells' := cN ++ [u]) hown hw hat
  exact ⟨⟨h1, (h.names.snoc hu).move strs_steady (Mv.of h2 h3), bytes_steady.move h.bytes (Mv.of h2 h3)⟩, Mv.of h2 h3⟩
theorem MsgM.setB (h : MsgM B E w gm vI vS vN vT vB cN M) {u : Value} {l : List UInt8} (hu : Byts (Out E gm (msgRows vI vS vN vT cN M)) w u l) :
    MsgM B E (w.setCell ⟨gm, 5, none⟩ u) gm vI vS vN vT u cN { M with bytes := l } ∧ Keep (Out E gm (msgRows vI vS vN vT cN M)) w (w.setCell ⟨gm, 5, none⟩ u) := by
  have h1 := h.obj.store 5 (by simp) u
  have h2 : Keep (Out E gm (msgRows vI vS vN vT cN M)) w (w.setCell ⟨gm, 5, none⟩ u) := Out.store u 5
  exact ⟨⟨h1, h.names.keep strs_steady h2, bytes_steady.keep hu h2⟩, h2⟩
end

/-- A message as a value. -/
def MsgS : Say Msg := fun ok w v M => ∃ vI vS vN vT vB, v = .agg #[.int .i64 M.number, vI, vS, vN, vT, vB] ∧ SL (lit u32V) ok w vI M.ints ∧ Strs ok w vS M.strings ∧ SL Strs ok w vN M.names ∧ SL (lit Value.bool) ok w vT M.truths ∧ Byts ok w vB M.bytes
theorem MsgS_steady : Steady MsgS := ⟨fun ⟨vI, vS, vN, vT, vB, e, h1, h2, h3, h4, h5⟩ hm =>
  ⟨vI, vS, vN, vT, vB, e, (SL_steady (lit_steady _)).move h1 hm, strs_steady.move h2 hm, (SL_steady strs_steady).move h3 hm, (SL_steady (lit_steady _)).move h4 hm, bytes_steady.move h5 hm⟩⟩
theorem MsgM.toV {B : Nat} {E : List Nat} {w : World} {gm : Nat} {vI vS vN vT vB : Value} {cN : List Value} {M : Msg} (h : MsgM B E w gm vI vS vN vT vB cN M) : MsgS all_ w (.agg #[.int .i64 M.number, vI, vS, vN, vT, vB]) M :=
  ⟨vI, vS, vN, vT, vB, rfl, own_SL h.ownI (fun _ _ => trivial), own_SL h.ownS (fun _ _ => trivial), own_SL_each h.ownN h.names strs_steady (fun _ _ => trivial) (fun _ _ => trivial), own_SL h.ownT (fun _ _ => trivial), bytes_steady.mono h.bytes (fun _ _ _ => trivial)⟩

end Go.Proofs.Ytnlkgaobbobakaa
