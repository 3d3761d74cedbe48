/- impl.ReadMessage: the message while it is made, beside the blocks that stood before the loop. -/
import Derived.Test.YtnlkgaobbobakaaRead
import Derived.Test.YtnlkgaobbobakaaSpecReadW
set_option linter.unusedVariables false
set_option linter.unusedSimpArgs false
namespace Go.Proofs.Ytnlkgaobbobakaa
open Go.RowKit

/-- A field is added to a message. -/
def accV (M : Msg) : Fv → Msg
  | .n v => { M with ints := M.ints ++ [v] }
  | .s l => { M with strings := M.strings ++ [l] }
  | .l ns => { M with names := M.names ++ [ns] }
  | .t b => { M with truths := M.truths ++ [b] }
  | .c l => { M with bytes := M.bytes ++ l }
  | .r l => { M with bytes := M.bytes ++ l }
/-- impl.ReadMessage, as a plain function of a message with a shape. -/
def imP (x : UInt8) (xs form : List UInt8) : Option Msg :=
  match rdAll form xs with
  | some (vals, []) => some (vals.foldl accV (Msg.none_ x.toNat))
  | _ => none

theorem FvAt.lt_ {ok : Nat → Prop} {w : World} {cs : Array Value} {q : UInt8 × Nat} {fv : Fv} (h : FvAt ok w cs q fv) : FvAt (fun b => ok b ∧ b < w.heap.size) w cs q fv := by
  have hlt : ∀ {α : Type} {enc : α → Value} {A : Option Addr} {xs : List α}, RR (lit enc) ok w A xs → RR (lit enc) (fun b => ok b ∧ b < w.heap.size) w A xs := fun h i x hx => by
    obtain ⟨ad, v, h1, h2, h3, h4⟩ := h i x hx
    have := blk_lt_of_cell h3
    rw [add_block] at this
    exact ⟨ad, v, h1, ⟨h2, this⟩, h3, h4⟩
  cases fv with
  | n v => exact h
  | s l => exact h
  | l ns => obtain ⟨h0, v, h2, A, c, h3, h4, h5, h6⟩ := h; exact ⟨h0, v, h2, A, c, h3, h4, h5, hlt h6⟩
  | t b => exact h
  | c l => exact h
  | r l => obtain ⟨h0, v, h2, A, c, h3, h4, h5, h6⟩ := h; exact ⟨h0, v, h2, A, c, h3, h4, h5, hlt h6⟩
theorem RR.both {α : Type} {enc : α → Value} {ok : Nat → Prop} {w : World} {A : Option Addr} {xs : List α} (h : RR (lit enc) ok w A xs) : RR (lit enc) (fun b => ok b ∧ b < w.heap.size) w A xs := fun i x hx => by
  obtain ⟨ad, v, h1, h2, h3, h4⟩ := h i x hx
  have := blk_lt_of_cell h3
  rw [add_block] at this
  exact ⟨ad, v, h1, ⟨h2, this⟩, h3, h4⟩
theorem FvAt.mono {ok ok' : Nat → Prop} {w : World} {cs : Array Value} {q : UInt8 × Nat} {fv : Fv} (h : FvAt ok w cs q fv) (hi : ∀ b, b < w.heap.size → ok b → ok' b) : FvAt ok' w cs q fv := by
  cases fv with
  | n v => exact h
  | s l => exact h
  | l ns => obtain ⟨h0, v, h2, h3⟩ := h; exact ⟨h0, v, h2, strs_steady.mono h3 hi⟩
  | t b => exact h
  | c l => exact h
  | r l => obtain ⟨h0, v, h2, h3⟩ := h; exact ⟨h0, v, h2, bytes_steady.mono h3 hi⟩

/-- Blocks under B but for one. -/
def besides (B g : Nat) : List Nat := (List.range B).filter fun b => b ≠ g
theorem mem_besides {B g b : Nat} : b ∈ besides B g ↔ b < B ∧ b ≠ g := by simp [besides]
abbrev old_ (W : World) (gm : Nat) : Nat → Prop := fun b => b < W.heap.size ∧ b ≠ gm

/-- The loop's state: W is the world ahead of it. -/
structure ImSt (B : Nat) (W : World) (gm : Nat) (vI vS vN vT vB : Value) (cN : List Value) (M : Msg) (w : World) : Prop where
  msg : MsgM B (besides W.heap.size gm) w gm vI vS vN vT vB cN M
  keep : Keep (old_ W gm) W w
  lo : B ≤ W.heap.size

section
variable {B gm : Nat} {W w w' : World} {vI vS vN vT vB : Value} {cN : List Value} {M : Msg}
theorem ImSt.size (h : ImSt B W gm vI vS vN vT vB cN M w) : B ≤ w.heap.size := Nat.le_trans h.lo h.keep.size
theorem ImSt.below (h : ImSt B W gm vI vS vN vT vB cN M w) (hb : Below w.heap.size w w') : ImSt B W gm vI vS vN vT vB cN M w' :=
  ⟨h.msg.below hb, h.keep.trans (Keep.of_below hb), h.lo⟩
theorem ImSt.drew (h : ImSt B W gm vI vS vN vT vB cN M w) : ImSt B W gm vI vS vN vT vB cN M w.drew := h.below ⟨rfl, rfl, rfl, Nat.le_refl _, fun _ _ => rfl⟩
theorem ImSt.alloc (h : ImSt B W gm vI vS vN vT vB cN M w) (o : Obj) : ImSt B W gm vI vS vN vT vB cN M (w.alloc o) := h.below ((Below.refl _ _).alloc (Nat.le_refl _) o)
theorem ImSt.field (h : ImSt B W gm vI vS vN vT vB cN M w) {vI' vS' vN' vT' vB' : Value} {cN' : List Value} {M' : Msg}
    (hm : MsgM B (besides W.heap.size gm) w' gm vI' vS' vN' vT' vB' cN' M') (hk : Keep (fun b => b < B ∨ b ∈ besides W.heap.size gm) w w') : ImSt B W gm vI' vS' vN' vT' vB' cN' M' w' :=
  ⟨hm, h.keep.then hk (fun b _ hb => .inr (mem_besides.2 hb)), h.lo⟩
theorem ImSt.pushI (h : ImSt B W gm vI vS vN vT vB cN M w) {v' : Value} {n : Nat} {w1 : World} (hown : w1.ownsRow B 48 1 v' (M.ints.map u32V ++ [u32V n]).length (M.ints.map u32V ++ [u32V n])) (hw : w.grownBy w1 vI.ownBlock) (hat : v'.ownBlock = vI.ownBlock ∨ ∃ k, v'.ownBlock = some k ∧ w.heap.size ≤ k) :
    ImSt B W gm v' vS vN vT vB cN { M with ints := M.ints ++ [n] } (w1.setCell ⟨gm, 1, none⟩ v') :=
  h.field (h.msg.pushI hown hw hat).1 (h.msg.away 1 ⟨_, List.mem_cons_self .., rfl⟩ hw).1
theorem ImSt.pushS (h : ImSt B W gm vI vS vN vT vB cN M w) {v' : Value} {n : List UInt8} {w1 : World} (hown : w1.ownsRow B 9 1 v' (M.strings.map strV ++ [strV n]).length (M.strings.map strV ++ [strV n])) (hw : w.grownBy w1 vS.ownBlock) (hat : v'.ownBlock = vS.ownBlock ∨ ∃ k, v'.ownBlock = some k ∧ w.heap.size ≤ k) :
    ImSt B W gm vI v' vN vT vB cN { M with strings := M.strings ++ [n] } (w1.setCell ⟨gm, 2, none⟩ v') :=
  h.field (h.msg.pushS hown hw hat).1 (h.msg.away 2 ⟨_, List.mem_cons_of_mem _ (List.mem_cons_self ..), rfl⟩ hw).1
theorem ImSt.pushN (h : ImSt B W gm vI vS vN vT vB cN M w) {v' u : Value} {l : List (List UInt8)} {w1 : World} (hown : w1.ownsRow B 23 1 v' (cN ++ [u]).length (cN ++ [u])) (hw : w.grownBy w1 vN.ownBlock) (hat : v'.ownBlock = vN.ownBlock ∨ ∃ k, v'.ownBlock = some k ∧ w.heap.size ≤ k)
    (hu : Strs (Out (besides W.heap.size gm) gm (msgRows vI vS vN vT cN M)) w u l) :
    ImSt B W gm vI vS v' vT vB (cN ++ [u]) { M with names := M.names ++ [l] } (w1.setCell ⟨gm, 3, none⟩ v') :=
  h.field (h.msg.pushN hown hw hat hu).1 (h.msg.away 3 ⟨_, List.mem_cons_of_mem _ (List.mem_cons_of_mem _ (List.mem_cons_self ..)), rfl⟩ hw).1
theorem ImSt.pushT (h : ImSt B W gm vI vS vN vT vB cN M w) {v' : Value} {n : Bool} {w1 : World} (hown : w1.ownsRow B 4 1 v' (M.truths.map Value.bool ++ [Value.bool n]).length (M.truths.map Value.bool ++ [Value.bool n])) (hw : w.grownBy w1 vT.ownBlock) (hat : v'.ownBlock = vT.ownBlock ∨ ∃ k, v'.ownBlock = some k ∧ w.heap.size ≤ k) :
    ImSt B W gm vI vS vN v' vB cN { M with truths := M.truths ++ [n] } (w1.setCell ⟨gm, 4, none⟩ v') :=
  h.field (h.msg.pushT hown hw hat).1 (h.msg.away 4 ⟨_, List.mem_cons_of_mem _ (List.mem_cons_of_mem _ (List.mem_cons_of_mem _ (List.mem_cons_self ..))), rfl⟩ hw).1
theorem ImSt.setB (h : ImSt B W gm vI vS vN vT vB cN M w) {u : Value} {l : List UInt8} (hu : Byts (Out (besides W.heap.size gm) gm (msgRows vI vS vN vT cN M)) w u l) :
    ImSt B W gm vI vS vN vT u cN { M with bytes := l } (w.setCell ⟨gm, 5, none⟩ u) :=
  h.field (h.msg.setB hu).1 (h.msg.away (v := vI) 5 ⟨_, List.mem_cons_self .., rfl⟩ (grownBy_refl _ _)).1
/-- A row that is new since w. -/
theorem ImSt.newB (h : ImSt B W gm vI vS vN vT vB cN M w) {u : Value} {l : List UInt8} (hb : Below w.heap.size w w') {m : Nat} (hm : w.heap.size ≤ m) (hu : w'.ownsRow m 5 1 u (l.map byteV).length (l.map byteV)) :
    ImSt B W gm vI vS vN vT u cN { M with bytes := l } (w'.setCell ⟨gm, 5, none⟩ u) :=
  (h.below hb).setB (own_SL hu (fun b hk => h.msg.obj.fresh b (Nat.le_trans hm (own_block_lt hu hk).1)))
theorem ImSt.newN (h : ImSt B W gm vI vS vN vT vB cN M w) {u : Value} {l : List (List UInt8)} (hb : Below w.heap.size w w') {m : Nat} (hm : w.heap.size ≤ m) (hu : w'.ownsRow m 9 1 u (l.map strV).length (l.map strV)) :
    Strs (Out (besides W.heap.size gm) gm (msgRows vI vS vN vT cN M)) w' u l :=
  own_SL hu (fun b hk => h.msg.obj.fresh b (Nat.le_trans hm (own_block_lt hu hk).1))
theorem ImSt.after (h : ImSt B W gm vI vS vN vT vB cN M w) {v : Value} {w1 : World} (hv : ∃ r ∈ msgRows vI vS vN vT cN M, r.val = v) (hw : w.grownBy w1 v.ownBlock) : Blk w1 gm 28 (msgCells vI vS vN vT vB M) := h.msg.after hv hw
end

theorem ImSt.start {W : World} {gm B : Nat} {n : Int} (hb : Blk W gm 28 #[.int .i64 n, .slice none 0 0, .slice none 0 0, .slice none 0 0, .slice none 0 0, .slice none 0 0]) (hB : B ≤ gm) :
    ImSt B W gm (.slice none 0 0) (.slice none 0 0) (.slice none 0 0) (.slice none 0 0) (.slice none 0 0) [] (Msg.none_ n) W := by
  refine ⟨⟨⟨hb, hB, ?_, ?_, ?_, ?_⟩, Each.nil _ _ _, SL.none_ _ _ _⟩, Keep.refl _ _, ?_⟩
  · intro r hr
    simp only [List.mem_cons, List.not_mem_nil, or_false] at hr
    rcases hr with rfl | rfl | rfl | rfl
    all_goals exact ⟨rfl, World.ownsRow_nil _ _ _ _, by simp⟩
  · simp
  · simp
  · intro b hb'
    obtain ⟨h1, h2⟩ := mem_besides.1 hb'
    refine ⟨h1, h2, fun r hr => ?_⟩
    simp only [List.mem_cons, List.not_mem_nil, or_false] at hr
    rcases hr with rfl | rfl | rfl | rfl
    all_goals simp [Value.ownBlock]
  · have := hb.lt; omega
theorem MsgM.toVb {B : Nat} {E : List Nat} {w : World} {gm : Nat} {vI vS vN vT vB : Value} {cN : List Value} {M : Msg} (h : MsgM B E w gm vI vS vN vT vB cN M) : MsgS (but gm) w (.agg #[.int .i64 M.number, vI, vS, vN, vT, vB]) M :=
  ⟨vI, vS, vN, vT, vB, rfl, own_SL h.ownI (fun b hb e => own_ne_blk h.ownI h.obj.blk (by decide) (by rw [hb, e])), own_SL h.ownS (fun b hb e => own_ne_blk h.ownS h.obj.blk (by decide) (by rw [hb, e])),
    own_SL_each h.ownN h.names strs_steady (fun _ ho => ho.1) (fun b hb e => own_ne_blk h.ownN h.obj.blk (by decide) (by rw [hb, e])), own_SL h.ownT (fun b hb e => own_ne_blk h.ownT h.obj.blk (by decide) (by rw [hb, e])), bytes_steady.mono h.bytes (fun _ _ ho => ho.1)⟩

theorem accV_number : ∀ (l : List Fv) (M : Msg), (l.foldl accV M).number = M.number
  | [], _ => rfl
  | fv :: r, M => by rw [List.foldl_cons, accV_number r]; cases fv <;> rfl
theorem Keep.of_below_old {W w : World} {n : Nat} (h : Keep (old_ W (n + 1)) W w) (hn : n ≤ W.heap.size) : Below n W w :=
  ⟨h.os, h.tape, h.output, h.size, fun k hk => h.block k (by omega) ⟨by omega, by omega⟩⟩

/-- How long what a field holds is. -/
def fvLen : Fv → Nat
  | .l ns => ns.length
  | .c l => l.length
  | .r l => l.length
  | _ => 0
theorem splitC_len : ∀ (xs cur : List UInt8), (splitC cur xs).length ≤ xs.length + 1
  | [], cur => by simp [splitC]
  | c :: r, cur => by
    unfold splitC
    split
    · have := splitC_len r []; simp only [List.length_cons]; omega
    · have := splitC_len r (cur ++ [c]); simp only [List.length_cons]; omega
theorem namesP_length (xs : List UInt8) : (namesP xs).length ≤ xs.length + 1 := by
  unfold namesP
  split
  · simp
  · exact splitC_len xs []
theorem rd1_len {c : UInt8} {xs zs : List UInt8} {fv : Fv} (h : rd1 c xs = some (fv, zs)) : fvLen fv ≤ xs.length + 1 ∧ zs.length ≤ xs.length := by
  unfold rd1 at h
  split at h
  · split at h
    · cases h
    · injection h with h; injection h with h1 h2; subst h1 h2
      exact ⟨by simp [fvLen], by simp⟩
  split at h
  · obtain ⟨q, hq, h⟩ := Option.map_eq_some_iff.1 h
    injection h with h1 h2; subst h1 h2
    have := psP_le hq
    exact ⟨by simp [fvLen], by omega⟩
  split at h
  · obtain ⟨q, hq, h⟩ := Option.map_eq_some_iff.1 h
    injection h with h1 h2; subst h1 h2
    have := psP_le hq
    have := namesP_length q.1
    exact ⟨by simp only [fvLen]; omega, by omega⟩
  split at h
  · split at h
    · cases h
    · injection h with h; injection h with h1 h2; subst h1 h2
      exact ⟨by simp [fvLen], by simp⟩
  split at h
  · split at h
    · cases h
    · injection h with h; injection h with h1 h2; subst h1 h2
      exact ⟨by simp only [fvLen, List.length_take]; omega, by simp⟩
  · injection h with h; injection h with h1 h2; subst h1 h2
    exact ⟨by simp only [fvLen]; omega, by simp⟩
theorem rdAll_len : ∀ (form xs : List UInt8) {vals : List Fv} {zs : List UInt8}, rdAll form xs = some (vals, zs) → ∀ fv ∈ vals, fvLen fv ≤ xs.length + 1
  | [], xs, vals, zs, h => by
    simp only [rdAll, Option.some.injEq, Prod.mk.injEq] at h
    rw [← h.1]
    simp
  | c :: r, xs, vals, zs, h => by
    simp only [rdAll] at h
    split at h
    · cases h
    · rename_i q hq
      obtain ⟨p, hp, h⟩ := Option.map_eq_some_iff.1 h
      injection h with h1 h2
      subst h1
      obtain ⟨fv, ys⟩ := q
      obtain ⟨vs, ws⟩ := p
      have h3 := rd1_len hq
      intro fv' hm
      rcases List.mem_cons.1 hm with rfl | hm
      · exact h3.1
      · have := rdAll_len r ys hp fv' hm
        omega
theorem add_mk (g o i : Nat) : (⟨g, o, none⟩ : Addr).add i = ⟨g, o + i, none⟩ := by unfold Addr.add; split <;> simp_all
theorem run_slice_arr (gp off : Nat) (W : World) : (Instr.sliceAt 96 (.pointer (some ⟨gp, off, none⟩)) none none none).run Try.prog W = .ok (.slice (some ⟨gp, off, none⟩) 16 16) W := by
  have hu : Try.prog.underlying 96 = some (.array (Try.prog.arrayLen 96) (Try.prog.elem 96)) := by kernel_rfl
  have hl : Try.prog.arrayLen 96 = 16 := by kernel_rfl
  have he : Try.prog.elem 96 = 5 := by kernel_rfl
  obtain ⟨i0, hi0, _, hsz, _⟩ := info_parts info_u8
  rw [run_sliceAt_array_all W 96 _ hu, he, hl]
  simp [sizeOf, typeInfo, hi0, slicedAt, Result.andThen, Addr.add]
abbrev BSt (L : List (UInt8 × Nat)) (pos : Nat) (b : List UInt8) (vB : Value) : Prop := (b = [] ∧ vB = .slice none 0 0 ∧ oneB (L.drop pos) = true) ∨ noB (L.drop pos) = true
theorem BSt.next {L : List (UInt8 × Nat)} {pos : Nat} {b : List UInt8} {vB : Value} {q : UInt8 × Nat} (h : BSt L pos b vB) (hd : L.drop pos = q :: L.drop (pos + 1)) (hc : isB q.1 = false) : BSt L (pos + 1) b vB := by
  unfold BSt at *
  rw [hd] at h
  simpa [oneB, noB, hc] using h
theorem BSt.hit {L : List (UInt8 × Nat)} {pos : Nat} {b : List UInt8} {vB : Value} {q : UInt8 × Nat} (h : BSt L pos b vB) (hd : L.drop pos = q :: L.drop (pos + 1)) (hc : isB q.1 = true) : b = [] ∧ vB = .slice none 0 0 ∧ noB (L.drop (pos + 1)) = true := by
  unfold BSt at *
  rw [hd] at h
  simpa [oneB, noB, hc] using h

/-- append in a region that draws its order. -/
theorem step_append_RR {P : Program} {w : World} {ops : Array Oper} {o : Oper} {a : Act} {K : Act → World → Prop} {Q : Exit → Act → World → Prop} {E : Prop} (hgd : o.guard = none) (s x : Operand) (t : TypeId)
    (ho : o.op = .call { callee := .builtin .append, args := #[s, x], argTypes := #[t, t] })
    (base : Nat) (e : TypeId) (z : Value) (bytes : Nat) (ht : P.underlying t = some (.slice e)) (hinfo : (P.info? e).map (fun i => (i.zero, i.size, i.bytes)) = some (some z, 1, bytes)) (hz1 : z.cells.size = 1)
    (v : Value) (xs : List Value) (hs : a.eval s = v) (hown : w.ownsRow base e 1 v xs.length xs) {α : Type} (enc : α → Value) (henc : ∀ y, (enc y).oneCell' = true) {ok : Nat → Prop} (A : Option Addr) (c : Nat) (ys : List α) (hx : a.eval x = .slice A ys.length c) (hr : RR (lit enc) ok w A ys)
    (h63 : xs.length + ys.length ≤ 9223372036854775807) (hbytes : (xs.length + ys.length) * bytes ≤ 140737488355328) (hbase : base ≤ w.heap.size)
    (h : ∀ (A' : Option Addr) (c' : Nat) w', w'.ownsRow base e 1 (.slice A' (xs.length + ys.length) c') (xs ++ ys.map enc).length (xs ++ ys.map enc) → w.grownBy w' v.ownBlock → ((Value.slice A' (xs.length + ys.length) c').ownBlock = v.ownBlock ∨ ∃ k, (Value.slice A' (xs.length + ys.length) c').ownBlock = some k ∧ w.heap.size ≤ k) → K (a.put o.dst (.slice A' (xs.length + ys.length) c')) w') :
    if Region.wanted o (yielded ops a.tmps) = true then Oper.wp P o a w K Q else E := by
  have hw : Region.wanted o (yielded ops a.tmps) = true := by simp [Region.wanted, hgd]
  rw [if_pos hw]
  exact wp_append_RR s x t ho base e z bytes ht hinfo hz1 v xs hs hown enc henc A c ys hx hr h63 hbytes hbase h

theorem rest_take {α : Type} {l : List α} {k : Nat} {a : α} (h : l[k]? = some a) : l.take (k + 1) = l.take k ++ [a] := by
  rw [List.take_add_one, h]; rfl

end Go.Proofs.Ytnlkgaobbobakaa
