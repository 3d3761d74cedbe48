/- spec.ReadMessage: what it answers, for any bytes. -/
import Derived.Test.YtnlkgaobbobakaaMsg
import Derived.Test.YtnlkgaobbobakaaShape
set_option linter.unusedVariables false
set_option linter.unusedSimpArgs false
namespace Go.Proofs.Ytnlkgaobbobakaa
open Go.RowKit

theorem info_u32 : (Try.prog.info? 48).map (fun i => (i.zero, i.size, i.bytes)) = some (some (.int .u32 0), 1, 4) := by kernel_rfl
theorem info_str : (Try.prog.info? 9).map (fun i => (i.zero, i.size, i.bytes)) = some (some (.string .empty), 1, 16) := by kernel_rfl
theorem info_bool : (Try.prog.info? 4).map (fun i => (i.zero, i.size, i.bytes)) = some (some (.bool false), 1, 1) := by kernel_rfl
theorem info_strs : (Try.prog.info? 23).map (fun i => (i.zero, i.size, i.bytes)) = some (some (.slice none 0 0), 1, 24) := by kernel_rfl

/-- The state while the letters are read; X: a further block that the call itself writes. -/
structure RdSt (w0 : World) (gm g k gr : Nat) (X : List Nat) (form : ByteArray) (pos : Nat) (vI vS vN vT vB : Value) (cN : List Value) (M : Msg) (xs : List UInt8) (st : Nat) (w : World) : Prop where
  msg : MsgM w0.heap.size (g :: k :: gr :: X) w gm vI vS vN vT vB cN M
  rdr : Rdr (Out (g :: k :: gr :: X) gm (msgRows vI vS vN vT cN M)) w g xs st
  iter : w.heap[k]? = some (.stringIter form pos)
  res : ∃ cs, cs.size = 6 ∧ Blk w gr 28 cs
  old : Keep (fun b => b < w0.heap.size) w0 w
  kg : k ≠ g
  kr : k ≠ gr
  gr_ : g ≠ gr
  lo : w0.heap.size ≤ g ∧ w0.heap.size ≤ k ∧ w0.heap.size ≤ gr
  loX : ∀ b ∈ X, w0.heap.size ≤ b ∧ b ≠ g ∧ b ≠ k ∧ b ≠ gr

section
variable {w0 w w' : World} {gm g k gr : Nat} {X : List Nat} {form : ByteArray} {pos : Nat} {vI vS vN vT vB : Value} {cN : List Value} {M : Msg} {xs : List UInt8} {st : Nat}
theorem RdSt.ltk (h : RdSt w0 gm g k gr X form pos vI vS vN vT vB cN M xs st w) : k < w.heap.size := (Array.getElem?_eq_some_iff.1 h.iter).1
theorem RdSt.ltg (h : RdSt w0 gm g k gr X form pos vI vS vN vT vB cN M xs st w) : g < w.heap.size := by obtain ⟨A, c, h1, _⟩ := h.rdr; exact h1.lt
theorem RdSt.below (h : RdSt w0 gm g k gr X form pos vI vS vN vT vB cN M xs st w) (hb : Below w.heap.size w w') : RdSt w0 gm g k gr X form pos vI vS vN vT vB cN M xs st w' :=
  ⟨h.msg.below hb, h.rdr.keep (Keep.of_below hb) (hb.block g h.ltg), (hb.block k h.ltk).trans h.iter,
    by obtain ⟨cs, h1, h2⟩ := h.res; exact ⟨cs, h1, (hb.block gr h2.lt).trans h2⟩, h.old.trans ⟨hb.os, hb.tape, hb.output, hb.size, fun b hlt _ => hb.block b hlt⟩, h.kg, h.kr, h.gr_, h.lo, h.loX⟩
theorem RdSt.drewN (h : RdSt w0 gm g k gr X form pos vI vS vN vT vB cN M xs st w) (n : Nat) : RdSt w0 gm g k gr X form pos vI vS vN vT vB cN M xs st (w.drewN n) := h.below ⟨rfl, rfl, rfl, Nat.le_refl _, fun _ _ => rfl⟩
theorem RdSt.drew (h : RdSt w0 gm g k gr X form pos vI vS vN vT vB cN M xs st w) : RdSt w0 gm g k gr X form pos vI vS vN vT vB cN M xs st w.drew := h.drewN 1
theorem RdSt.alloc (h : RdSt w0 gm g k gr X form pos vI vS vN vT vB cN M xs st w) (o : Obj) : RdSt w0 gm g k gr X form pos vI vS vN vT vB cN M xs st (w.alloc o) := h.below ((Below.refl _ _).alloc (Nat.le_refl _) o)
/-- The reader has gone on. -/
theorem RdSt.reader (h : RdSt w0 gm g k gr X form pos vI vS vN vT vB cN M xs st w) {xs' : List UInt8} {st' : Nat} (hr : Rdr (Out (g :: k :: gr :: X) gm (msgRows vI vS vN vT cN M)) w' g xs' st') (hg : w.grownBy w' (some g)) : RdSt w0 gm g k gr X form pos vI vS vN vT vB cN M xs' st' w' :=
  ⟨h.msg.side (by simp) hg, hr, (hg.block k h.ltk (fun e => h.kg (by injection e))).trans h.iter,
    by obtain ⟨cs, h1, h2⟩ := h.res; exact ⟨cs, h1, (hg.block gr h2.lt (fun e => h.gr_ (by injection e with e; exact e.symm))).trans h2⟩,
    h.old.grown hg (fun b e hlt hb => by injection e with e; have := h.lo.1; omega), h.kg, h.kr, h.gr_, h.lo, h.loX⟩
theorem iterAt_grown {k : Nat} (hk : w.heap[k]? = some (.stringIter form pos)) (p : Nat) : w.grownBy (w.iterAt k form p) (some k) :=
  ⟨rfl, rfl, rfl, by rw [Lib.iterAt_size]; exact Nat.le_refl _, fun b _ hb => Lib.iterAt_other _ _ _ _ _ (fun e => hb (by rw [e]))⟩
theorem RdSt.next (h : RdSt w0 gm g k gr X form pos vI vS vN vT vB cN M xs st w) (p : Nat) : RdSt w0 gm g k gr X form p vI vS vN vT vB cN M xs st (w.iterAt k form p) := by
  have hg := iterAt_grown h.iter p
  exact ⟨h.msg.side (by simp) hg, h.rdr.keep (Keep.of_grown hg (fun ho => ho.2.1 (by simp))) (Lib.iterAt_other _ _ _ _ _ h.kg.symm), Lib.iterAt_heap _ _ _ _ _ h.iter,
    by obtain ⟨cs, h1, h2⟩ := h.res; exact ⟨cs, h1, (Lib.iterAt_other _ _ _ _ _ h.kr.symm).trans h2⟩,
    h.old.grown hg (fun b e hlt hb => by injection e with e; have := h.lo.2.1; omega), h.kg, h.kr, h.gr_, h.lo, h.loX⟩
/-- A field of the message has been stored. -/
theorem RdSt.field (h : RdSt w0 gm g k gr X form pos vI vS vN vT vB cN M xs st w) {vI' vS' vN' vT' vB' : Value} {cN' : List Value} {M' : Msg}
    (hm : MsgM w0.heap.size (g :: k :: gr :: X) w' gm vI' vS' vN' vT' vB' cN' M') (hv : Mv (Out (g :: k :: gr :: X) gm (msgRows vI vS vN vT cN M)) (Out (g :: k :: gr :: X) gm (msgRows vI' vS' vN' vT' cN' M')) w w')
    (hk : Keep (fun b => b < w0.heap.size ∨ b ∈ g :: k :: gr :: X) w w') : RdSt w0 gm g k gr X form pos vI' vS' vN' vT' vB' cN' M' xs st w' := by
  obtain ⟨A, c, h1, h2, h3, h4⟩ := h.rdr
  obtain ⟨cs, h5, h6⟩ := h.res
  refine ⟨hm, ⟨A, c, h1.keep hk (by simp), h2, h3, h4.move (lit_steady _) hv⟩, (hk.block k h.ltk (by simp)).trans h.iter, ⟨cs, h5, h6.keep hk (by simp)⟩, ?_, h.kg, h.kr, h.gr_, h.lo, h.loX⟩
  exact h.old.then hk (fun b _ hb => .inl hb)
theorem RdSt.pushI (h : RdSt w0 gm g k gr X form pos vI vS vN vT vB cN M xs st w) {v' : Value} {n : Nat} {w1 : World} (hown : w1.ownsRow w0.heap.size 48 1 v' (M.ints.map u32V ++ [u32V n]).length (M.ints.map u32V ++ [u32V n])) (hw : w.grownBy w1 vI.ownBlock) (hat : v'.ownBlock = vI.ownBlock ∨ ∃ k, v'.ownBlock = some k ∧ w.heap.size ≤ k) :
    RdSt w0 gm g k gr X form pos v' vS vN vT vB cN { M with ints := M.ints ++ [n] } xs st (w1.setCell ⟨gm, 1, none⟩ v') := by
  obtain ⟨a, b⟩ := h.msg.pushI hown hw hat
  exact h.field a b (h.msg.away 1 ⟨_, List.mem_cons_self .., rfl⟩ hw).1
theorem RdSt.pushS (h : RdSt w0 gm g k gr X form pos vI vS vN vT vB cN M xs st w) {v' : Value} {n : List UInt8} {w1 : World} (hown : w1.ownsRow w0.heap.size 9 1 v' (M.strings.map strV ++ [strV n]).length (M.strings.map strV ++ [strV n])) (hw : w.grownBy w1 vS.ownBlock) (hat : v'.ownBlock = vS.ownBlock ∨ ∃ k, v'.ownBlock = some k ∧ w.heap.size ≤ k) :
    RdSt w0 gm g k gr X form pos vI v' vN vT vB cN { M with strings := M.strings ++ [n] } xs st (w1.setCell ⟨gm, 2, none⟩ v') := by
  obtain ⟨a, b⟩ := h.msg.pushS hown hw hat
  exact h.field a b (h.msg.away 2 ⟨_, List.mem_cons_of_mem _ (List.mem_cons_self ..), rfl⟩ hw).1
theorem RdSt.pushN (h : RdSt w0 gm g k gr X form pos vI vS vN vT vB cN M xs st w) {v' u : Value} {l : List (List UInt8)} {w1 : World} (hown : w1.ownsRow w0.heap.size 23 1 v' (cN ++ [u]).length (cN ++ [u])) (hw : w.grownBy w1 vN.ownBlock) (hat : v'.ownBlock = vN.ownBlock ∨ ∃ k, v'.ownBlock = some k ∧ w.heap.size ≤ k)
    (hu : Strs (Out (g :: k :: gr :: X) gm (msgRows vI vS vN vT cN M)) w u l) :
    RdSt w0 gm g k gr X form pos vI vS v' vT vB (cN ++ [u]) { M with names := M.names ++ [l] } xs st (w1.setCell ⟨gm, 3, none⟩ v') := by
  obtain ⟨a, b⟩ := h.msg.pushN hown hw hat hu
  exact h.field a b (h.msg.away 3 ⟨_, List.mem_cons_of_mem _ (List.mem_cons_of_mem _ (List.mem_cons_self ..)), rfl⟩ hw).1
theorem RdSt.pushT (h : RdSt w0 gm g k gr X form pos vI vS vN vT vB cN M xs st w) {v' : Value} {n : Bool} {w1 : World} (hown : w1.ownsRow w0.heap.size 4 1 v' (M.truths.map Value.bool ++ [Value.bool n]).length (M.truths.map Value.bool ++ [Value.bool n])) (hw : w.grownBy w1 vT.ownBlock) (hat : v'.ownBlock = vT.ownBlock ∨ ∃ k, v'.ownBlock = some k ∧ w.heap.size ≤ k) :
    RdSt w0 gm g k gr X form pos vI vS vN v' vB cN { M with truths := M.truths ++ [n] } xs st (w1.setCell ⟨gm, 4, none⟩ v') := by
  obtain ⟨a, b⟩ := h.msg.pushT hown hw hat
  exact h.field a b (h.msg.away 4 ⟨_, List.mem_cons_of_mem _ (List.mem_cons_of_mem _ (List.mem_cons_of_mem _ (List.mem_cons_self ..))), rfl⟩ hw).1
theorem RdSt.setB (h : RdSt w0 gm g k gr X form pos vI vS vN vT vB cN M xs st w) {u : Value} {l : List UInt8} (hu : Byts (Out (g :: k :: gr :: X) gm (msgRows vI vS vN vT cN M)) w u l) :
    RdSt w0 gm g k gr X form pos vI vS vN vT u cN { M with bytes := l } xs st (w.setCell ⟨gm, 5, none⟩ u) := by
  obtain ⟨a, b⟩ := h.msg.setB hu
  exact h.field a b.mv (h.msg.away (v := vI) 5 ⟨_, List.mem_cons_self .., rfl⟩ (grownBy_refl _ _)).1
/-- The reader's rest has been taken: nothing is left in it. -/
theorem RdSt.emptied (h : RdSt w0 gm g k gr X form pos vI vS vN vT vB cN M xs st w) : RdSt w0 gm g k gr X form pos vI vS vN vT vB cN M [] st (w.setCell ⟨g, 0, none⟩ (.slice none 0 0)) := by
  obtain ⟨A, c, h1, h2, h3, h4⟩ := h.rdr
  refine h.reader ⟨none, 0, h1.set_ 0 _, by simp, by omega, RR.nil _ _ _ _⟩ ?_
  exact ⟨rfl, rfl, rfl, by simp [World.setCell], fun b _ hb => Below.heap_setCell _ _ _ _ (fun e => hb (by rw [e]))⟩
/-- A list of the call's own beside the message has grown. -/
theorem RdSt.pushX (h : RdSt w0 gm g k gr X form pos vI vS vN vT vB cN M xs st w) {X' : List Nat} {row : Option Nat} (hg : w.grownBy w' row) (hrow : ∀ b, row = some b → b ∈ X) (hX : ∀ b ∈ X', (b ∈ X ∨ w.heap.size ≤ b) ∧ b < w'.heap.size) :
    RdSt w0 gm g k gr X' form pos vI vS vN vT vB cN M xs st w' ∧ Mv (Out (g :: k :: gr :: X) gm (msgRows vI vS vN vT cN M)) (Out (g :: k :: gr :: X') gm (msgRows vI vS vN vT cN M)) w w' := by
  have hmv : Mv (Out (g :: k :: gr :: X) gm (msgRows vI vS vN vT cN M)) (Out (g :: k :: gr :: X') gm (msgRows vI vS vN vT cN M)) w w' := fun b hb ho => by
    refine ⟨⟨ho.1, fun hm => ?_, ho.2.2⟩, hg.block b hb (fun e => ho.2.1 (by have := hrow b e.symm; simp [this]))⟩
    rcases List.mem_cons.1 hm with rfl | hm
    · exact ho.2.1 (by simp)
    rcases List.mem_cons.1 hm with rfl | hm
    · exact ho.2.1 (by simp)
    rcases List.mem_cons.1 hm with rfl | hm
    · exact ho.2.1 (by simp)
    rcases (hX b hm).1 with hx | hx
    · exact ho.2.1 (by simp [hx])
    · omega
  have hout := h.msg.obj.out
  have hobj : ObjM w0.heap.size (g :: k :: gr :: X') w' gm 28 (msgCells vI vS vN vT vB M) (msgRows vI vS vN vT cN M) := by
    have h1 := h.msg.obj.keep (w' := w') hg.size (hg.block gm h.msg.obj.blk.lt (fun e => (hout gm (by have := hrow gm e.symm; simp [this])).2.1 rfl))
      (fun r hr q hq => hg.block q (own_block_lt (h.msg.obj.row r hr).2.1 hq).2 (fun e => (hout q (by have := hrow q e.symm; simp [this])).2.2 r hr hq))
    refine ⟨h1.blk, h1.lo, h1.row, h1.types, h1.slots, fun b hm => ?_⟩
    rcases List.mem_cons.1 hm with rfl | hm
    · exact h1.out b (by simp)
    rcases List.mem_cons.1 hm with rfl | hm
    · exact h1.out b (by simp)
    rcases List.mem_cons.1 hm with rfl | hm
    · exact h1.out b (by simp)
    obtain ⟨hx | hx, hlt⟩ := hX b hm
    · exact h1.out b (by simp [hx])
    · exact ⟨hlt, by have := h.msg.obj.blk.lt; omega, fun r hr hq => by have := (own_block_lt (h.msg.obj.row r hr).2.1 hq).2; omega⟩
  obtain ⟨A, c, h1, h2, h3, h4⟩ := h.rdr
  obtain ⟨cs, h5, h6⟩ := h.res
  refine ⟨⟨⟨hobj, h.msg.names.move strs_steady hmv, bytes_steady.move h.msg.bytes hmv⟩, ⟨A, c, (hg.block g h1.lt (fun e => (h.loX g (hrow g e.symm)).2.1 rfl)).trans h1, h2, h3, h4.move (lit_steady _) hmv⟩,
    (hg.block k h.ltk (fun e => (h.loX k (hrow k e.symm)).2.2.1 rfl)).trans h.iter, ⟨cs, h5, (hg.block gr h6.lt (fun e => (h.loX gr (hrow gr e.symm)).2.2.2 rfl)).trans h6⟩,
    h.old.grown hg (fun b e hlt hb => by have := (h.loX b (hrow b e)).1; omega), h.kg, h.kr, h.gr_, h.lo, fun b hb => ?_⟩, hmv⟩
  rcases (hX b hb).1 with hx | hx
  · exact h.loX b hx
  · have := h.ltg; have := h.ltk; have := h6.lt; have := h.old.size; exact ⟨by omega, by omega, by omega, by omega⟩
theorem RdSt.pushL {v v' : Value} (h : RdSt w0 gm g k gr v.ownBlock.toList form pos vI vS vN vT vB cN M xs st w) {w1 : World} {e : TypeId} {n : Nat} {cells : List Value} (hown : w1.ownsRow w0.heap.size e 1 v' n cells) (hg : w.grownBy w1 v.ownBlock) (hat : v'.ownBlock = v.ownBlock ∨ ∃ k, v'.ownBlock = some k ∧ w.heap.size ≤ k) :
    RdSt w0 gm g k gr v'.ownBlock.toList form pos vI vS vN vT vB cN M xs st w1 ∧ Mv (Out (g :: k :: gr :: v.ownBlock.toList) gm (msgRows vI vS vN vT cN M)) (Out (g :: k :: gr :: v'.ownBlock.toList) gm (msgRows vI vS vN vT cN M)) w w1 := by
  refine h.pushX hg (fun b hb => by rw [hb]; simp) (fun b hb => ?_)
  have hb' : v'.ownBlock = some b := by
    cases hv : v'.ownBlock with
    | none => rw [hv] at hb; simp at hb
    | some q => rw [hv] at hb; simp at hb; rw [hb]
  refine ⟨?_, (own_block_lt hown hb').2⟩
  rcases hat with e | ⟨q, e, hq⟩
  · exact .inl (by rw [← e]; exact hb)
  · rw [hb'] at e; injection e with e; exact .inr (by omega)
/-- The list beside the message is done. -/
theorem RdSt.doneL {A : Option Addr} {n c : Nat} {l : List (List UInt8)} (h : RdSt w0 gm g k gr (Value.slice A n c).ownBlock.toList form pos vI vS vN vT vB cN M xs st w) {e : TypeId} (hown : w.ownsRow w0.heap.size e 1 (.slice A n c) n (l.map strV)) :
    RdSt w0 gm g k gr [] form pos vI vS vN vT vB cN M xs st w ∧ Strs (Out (g :: k :: gr :: []) gm (msgRows vI vS vN vT cN M)) w (.slice A n c) l := by
  refine ⟨(h.pushX (X' := []) (grownBy_refl w none) (fun b hb => by cases hb) (fun b hb => by simp at hb)).1, ?_⟩
  have hlen : l.length = n := by simpa using hown.1
  obtain ⟨A', c', hv, h1, h2⟩ := own_form hown
  injection hv with e1 e2 e3
  subst hlen
  refine ⟨A, c, rfl, by omega, by omega, own_RR hown fun b hb => ?_⟩
  have hm : b ∈ (Value.slice A l.length c).ownBlock.toList := by rw [hb]; simp
  have h3 := h.msg.obj.out b (by simp [hm])
  have h4 := h.loX b hm
  exact ⟨h3.2.1, by simp; exact ⟨h4.2.1, h4.2.2.1, h4.2.2.2⟩, h3.2.2⟩
end

/-- As the letters begin. -/
theorem RdSt.start (w0 : World) (x : Int) (A2 : Option Addr) (c : Nat) (zs : List UInt8) (form : ByteArray) (h2 : zs.length ≤ c) (hc : c ≤ 9223372036854775807) (hr : RR (lit byteV) (fun b => b < w0.heap.size) w0 A2 zs) :
    RdSt w0 (w0.heap.size + 1) (w0.heap.size + 1 + 1) (w0.heap.size + 1 + 1 + 1) w0.heap.size [] form 0 (.slice none 0 0) (.slice none 0 0) (.slice none 0 0) (.slice none 0 0) (.slice none 0 0) [] (Msg.none_ x) zs 0
      ((((w0.alloc (.cells #[.int .i64 0, .slice none 0 0, .slice none 0 0, .slice none 0 0, .slice none 0 0, .slice none 0 0] 28)).alloc
        (.cells #[.int .i64 x, .slice none 0 0, .slice none 0 0, .slice none 0 0, .slice none 0 0, .slice none 0 0] 28)).alloc
          (.cells #[.slice A2 zs.length c, .int .i64 0] 53)).iter form 0) := by
  generalize ho1 : Obj.cells #[.int .i64 0, .slice none 0 0, .slice none 0 0, .slice none 0 0, .slice none 0 0, .slice none 0 0] 28 = o1
  generalize ho2 : Obj.cells #[.int .i64 x, .slice none 0 0, .slice none 0 0, .slice none 0 0, .slice none 0 0, .slice none 0 0] 28 = o2
  generalize ho3 : Obj.cells #[.slice A2 zs.length c, .int .i64 0] 53 = o3
  have s1 : (w0.alloc o1).heap.size = w0.heap.size + 1 := by simp
  have s2 : ((w0.alloc o1).alloc o2).heap.size = w0.heap.size + 1 + 1 := by simp
  have s3 : (((w0.alloc o1).alloc o2).alloc o3).heap.size = w0.heap.size + 1 + 1 + 1 := by simp
  have s4 : ((((w0.alloc o1).alloc o2).alloc o3).iter form 0).heap.size = w0.heap.size + 1 + 1 + 1 + 1 := by simp [World.iter]
  have b1 : ((((w0.alloc o1).alloc o2).alloc o3).iter form 0).heap[w0.heap.size]? = some o1 := by
    unfold World.iter
    rw [Below.heap_alloc _ _ _ (by omega), Below.heap_alloc _ _ _ (by omega), Below.heap_alloc _ _ _ (by omega)]
    exact heap_alloc_new w0 o1
  have b2 : ((((w0.alloc o1).alloc o2).alloc o3).iter form 0).heap[w0.heap.size + 1]? = some o2 := by
    unfold World.iter
    rw [Below.heap_alloc _ _ _ (by omega), Below.heap_alloc _ _ _ (by omega)]
    have := heap_alloc_new (w0.alloc o1) o2
    rwa [s1] at this
  have b3 : ((((w0.alloc o1).alloc o2).alloc o3).iter form 0).heap[w0.heap.size + 1 + 1]? = some o3 := by
    unfold World.iter
    rw [Below.heap_alloc _ _ _ (by omega)]
    have := heap_alloc_new ((w0.alloc o1).alloc o2) o3
    rwa [s2] at this
  have b4 : ((((w0.alloc o1).alloc o2).alloc o3).iter form 0).heap[w0.heap.size + 1 + 1 + 1]? = some (.stringIter form 0) := by
    have := heap_alloc_new (((w0.alloc o1).alloc o2).alloc o3) (.stringIter form 0)
    rwa [s3] at this
  have hk : Keep (fun b => b < w0.heap.size) w0 ((((w0.alloc o1).alloc o2).alloc o3).iter form 0) := (((Keep.refl _ w0).alloc _).alloc _).alloc _ |>.alloc _
  subst ho1 ho2 ho3
  generalize ((((w0.alloc (.cells #[.int .i64 0, .slice none 0 0, .slice none 0 0, .slice none 0 0, .slice none 0 0, .slice none 0 0] 28)).alloc
        (.cells #[.int .i64 x, .slice none 0 0, .slice none 0 0, .slice none 0 0, .slice none 0 0, .slice none 0 0] 28)).alloc
          (.cells #[.slice A2 zs.length c, .int .i64 0] 53)).iter form 0) = W at *
  clear s1 s2 s3
  have hno : ∀ r ∈ msgRows (.slice none 0 0) (.slice none 0 0) (.slice none 0 0) (.slice none 0 0) [] (Msg.none_ x), r.val = .slice none 0 0 ∧ r.cells = [] ∧ r.elem ≠ 28 ∧ (msgCells (.slice none 0 0) (.slice none 0 0) (.slice none 0 0) (.slice none 0 0) (.slice none 0 0) (Msg.none_ x))[r.slot]? = some (.slice none 0 0) := by
    intro r hr
    simp [Msg.none_] at hr
    rcases hr with rfl | rfl | rfl | rfl <;> exact ⟨rfl, rfl, by decide, rfl⟩
  have hobj : ObjM w0.heap.size [w0.heap.size + 1 + 1, w0.heap.size + 1 + 1 + 1, w0.heap.size] W (w0.heap.size + 1) 28 (msgCells (.slice none 0 0) (.slice none 0 0) (.slice none 0 0) (.slice none 0 0) (.slice none 0 0) (Msg.none_ x)) (msgRows (.slice none 0 0) (.slice none 0 0) (.slice none 0 0) (.slice none 0 0) [] (Msg.none_ x)) := by
    refine ⟨b2, by omega, fun r hr => ?_, by simp, by simp, fun b hb => ?_⟩
    · obtain ⟨e1, e2, e3, e4⟩ := hno r hr
      rw [e1, e2]
      exact ⟨e4, World.ownsRow_nil _ _ _ _, e3⟩
    · refine ⟨?_, ?_, fun r hr => by rw [(hno r hr).1]; simp [Value.ownBlock]⟩
      · simp at hb; omega
      · simp at hb; omega
  have hmv : Mv (fun b => b < w0.heap.size) (Out [w0.heap.size + 1 + 1, w0.heap.size + 1 + 1 + 1, w0.heap.size] (w0.heap.size + 1) (msgRows (.slice none 0 0) (.slice none 0 0) (.slice none 0 0) (.slice none 0 0) [] (Msg.none_ x))) w0 W := fun b hb ho =>
    ⟨⟨by omega, by simp; omega, fun r hr => by rw [(hno r hr).1]; simp [Value.ownBlock]⟩, hk.block b hb ho⟩
  exact ⟨⟨hobj, Each.nil _ _ _, SL.none_ _ _ _⟩, ⟨A2, c, b3, h2, hc, hr.move (lit_steady _) hmv⟩, b4, ⟨_, by rfl, b1⟩, hk, by omega, by omega, by omega, ⟨by omega, by omega, by omega⟩, fun b hb => by simp at hb⟩

theorem mk_size (l : List UInt8) : (⟨l.toArray⟩ : ByteArray).size = l.length := by simp [ByteArray.size]
theorem mk_getElem (l : List UInt8) (i : Nat) (h : i < (⟨l.toArray⟩ : ByteArray).size) : (⟨l.toArray⟩ : ByteArray)[i]'h = l[i]'(by rwa [mk_size] at h) := rfl
/-- One letter of the text ranged over. -/
theorem next_letter {w : World} {k pos : Nat} {form : List UInt8} {c : UInt8} (ty : TypeId) (hk : w.heap[k]? = some (.stringIter ⟨form.toArray⟩ pos)) (hc : form[pos]? = some c) (ha : c.toNat < 128) :
    (Instr.next (.pointer (some ⟨k, 0, none⟩)) true ty).run Try.prog w = .ok (.tuple #[.bool true, .int .i64 (pos : Int), .int .i32 (c.toNat : Int)]) (w.iterAt k ⟨form.toArray⟩ (pos + 1)) := by
  obtain ⟨hlt, he⟩ := List.getElem?_eq_some_iff.1 hc
  have hs : pos < (⟨form.toArray⟩ : ByteArray).size := by rw [mk_size]; exact hlt
  have e : (⟨form.toArray⟩ : ByteArray)[pos]'hs = c := by rw [mk_getElem]; exact he
  rw [Lib.run_next_ascii_at w k ⟨form.toArray⟩ pos ty hk hs (by rw [e]; exact ha), e]
theorem next_over {w : World} {k pos : Nat} {form : List UInt8} (ty : TypeId) (hk : w.heap[k]? = some (.stringIter ⟨form.toArray⟩ pos)) (hp : form.length ≤ pos) :
    (Instr.next (.pointer (some ⟨k, 0, none⟩)) true ty).run Try.prog w = .ok (.tuple #[.bool false]) w :=
  Lib.run_next_end_at w k ⟨form.toArray⟩ pos ty hk (by rw [mk_size]; omega)

end Go.Proofs.Ytnlkgaobbobakaa
