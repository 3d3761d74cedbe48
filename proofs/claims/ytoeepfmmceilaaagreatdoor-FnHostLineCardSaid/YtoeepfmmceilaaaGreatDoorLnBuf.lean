/- bytes.Buffer: the shelf's contracts at this program (the layings printed by the kit's own tool), and Write with the rows that stay as they were. -/
import Derived.Test.YtoeepfmmceilaaaGreatDoorLnEncd
import Derived.Shelf.Bytes.BufferK
import Derived.Shelf.Bytes.WriteAny
import Derived.Shelf.Bytes.Bytes
import Derived.Lib.BufferOld
set_option linter.unusedVariables false
set_option linter.unusedSimpArgs false
namespace Go.Proofs.YtoeepfmmceilaaaGreatDoor
open Go.RowKit
open Go.Shelf
def Tryz.lays178_ren : Go.Shelf.Ren := ⟨fun | 178 => 76 | 251 => 108 | 252 => 109 | 181 => 139 | 184 => 140 | 290 => 141 | 324 => 152 | n => n, fun | 130 => 112 | 9 => 9 | 3 => 3 | 75 => 67 | 0 => 0 | 93 => 116 | 91 => 114 | 131 => 130 | 4 => 4 | 37 => 28 | 20 => 20 | 80 => 97 | 5 => 5 | n => n, fun | 14 => 3 | n => n⟩
theorem Tryz.lays178 : LaysM.n178 Tryz.prog Tryz.lays178_ren := {
  mixed := by kernel_rfl
  f178 := Tryz.func76.trans (congrArg some (by kernel_rfl))
  f181 := Tryz.func139.trans (congrArg some (by kernel_rfl))
  f184 := Tryz.func140.trans (congrArg some (by kernel_rfl))
  f251 := Tryz.func108.trans (congrArg some (by kernel_rfl))
  f252 := Tryz.func109.trans (congrArg some (by kernel_rfl))
  f290 := Tryz.func141.trans (congrArg some (by kernel_rfl))
  f324 := Tryz.func152.trans (congrArg some (by kernel_rfl))
  t0 := Tryz.underlying0
  a0 := Tryz.isAgg0
  z0 := Tryz.sizeOf0
  v0 := Tryz.zeroValue0
  t3 := Tryz.underlying3
  a3 := Tryz.isAgg3
  z3 := Tryz.sizeOf3
  v3 := Tryz.zeroValue3
  t4 := Tryz.underlying4
  a4 := Tryz.isAgg4
  z4 := Tryz.sizeOf4
  v4 := Tryz.zeroValue4
  t9 := Tryz.underlying9
  a9 := Tryz.isAgg9
  z9 := Tryz.sizeOf9
  v9 := Tryz.zeroValue9
  t20 := Tryz.underlying20
  a20 := Tryz.isAgg20
  z20 := Tryz.sizeOf20
  v20 := Tryz.zeroValue20
  t37 := Tryz.underlying28
  a37 := Tryz.isAgg28
  z37 := Tryz.sizeOf28
  v37 := Tryz.zeroValue28
  t75 := Tryz.underlying67
  a75 := Tryz.isAgg67
  z75 := Tryz.sizeOf67
  v75 := Tryz.zeroValue67
  t91 := Tryz.underlying114
  a91 := Tryz.isAgg114
  z91 := Tryz.sizeOf114
  v91 := Tryz.zeroValue114
  t93 := Tryz.underlying116
  a93 := Tryz.isAgg116
  z93 := Tryz.sizeOf116
  v93 := Tryz.zeroValue116
  t130 := Tryz.underlying112
  a130 := Tryz.isAgg112
  z130 := Tryz.sizeOf112
  v130 := Tryz.zeroValue112
  t131 := Tryz.underlying130
  a131 := Tryz.isAgg130
  z131 := Tryz.sizeOf130
  v131 := Tryz.zeroValue130
  g14 := by kernel_rfl
  t5 := Tryz.underlying5
  a5 := Tryz.isAgg5
  z5 := Tryz.sizeOf5
  v5 := Tryz.zeroValue5
  t80 := Tryz.underlying97
  a80 := Tryz.isAgg97
  z80 := Tryz.sizeOf97
  v80 := Tryz.zeroValue97
  i0 := by kernel_rfl
  i3 := by kernel_rfl
  i4 := by kernel_rfl
  i5 := by kernel_rfl
  i9 := by kernel_rfl
  i20 := by kernel_rfl
  i37 := by kernel_rfl
  i75 := by kernel_rfl
  i80 := by kernel_rfl
  i91 := by kernel_rfl
  i93 := by kernel_rfl
  i130 := by kernel_rfl
  i131 := by kernel_rfl
  m14 := by kernel_rfl }
def Tryz.lays179_ren : Go.Shelf.Ren := ⟨fun | 179 => 77 | 251 => 108 | 252 => 109 | 181 => 139 | 184 => 140 | 290 => 141 | 324 => 152 | n => n, fun | 130 => 112 | 5 => 5 | 75 => 67 | 0 => 0 | 93 => 116 | 91 => 114 | 3 => 3 | 131 => 130 | 4 => 4 | 37 => 28 | 20 => 20 | 80 => 97 | 9 => 9 | n => n, fun | 14 => 3 | n => n⟩
theorem Tryz.lays179 : LaysM.n179 Tryz.prog Tryz.lays179_ren := {
  mixed := by kernel_rfl
  f179 := Tryz.func77.trans (congrArg some (by kernel_rfl))
  f181 := Tryz.func139.trans (congrArg some (by kernel_rfl))
  f184 := Tryz.func140.trans (congrArg some (by kernel_rfl))
  f251 := Tryz.func108.trans (congrArg some (by kernel_rfl))
  f252 := Tryz.func109.trans (congrArg some (by kernel_rfl))
  f290 := Tryz.func141.trans (congrArg some (by kernel_rfl))
  f324 := Tryz.func152.trans (congrArg some (by kernel_rfl))
  t0 := Tryz.underlying0
  a0 := Tryz.isAgg0
  z0 := Tryz.sizeOf0
  v0 := Tryz.zeroValue0
  t3 := Tryz.underlying3
  a3 := Tryz.isAgg3
  z3 := Tryz.sizeOf3
  v3 := Tryz.zeroValue3
  t4 := Tryz.underlying4
  a4 := Tryz.isAgg4
  z4 := Tryz.sizeOf4
  v4 := Tryz.zeroValue4
  t5 := Tryz.underlying5
  a5 := Tryz.isAgg5
  z5 := Tryz.sizeOf5
  v5 := Tryz.zeroValue5
  t20 := Tryz.underlying20
  a20 := Tryz.isAgg20
  z20 := Tryz.sizeOf20
  v20 := Tryz.zeroValue20
  t37 := Tryz.underlying28
  a37 := Tryz.isAgg28
  z37 := Tryz.sizeOf28
  v37 := Tryz.zeroValue28
  t75 := Tryz.underlying67
  a75 := Tryz.isAgg67
  z75 := Tryz.sizeOf67
  v75 := Tryz.zeroValue67
  t91 := Tryz.underlying114
  a91 := Tryz.isAgg114
  z91 := Tryz.sizeOf114
  v91 := Tryz.zeroValue114
  t93 := Tryz.underlying116
  a93 := Tryz.isAgg116
  z93 := Tryz.sizeOf116
  v93 := Tryz.zeroValue116
  t130 := Tryz.underlying112
  a130 := Tryz.isAgg112
  z130 := Tryz.sizeOf112
  v130 := Tryz.zeroValue112
  t131 := Tryz.underlying130
  a131 := Tryz.isAgg130
  z131 := Tryz.sizeOf130
  v131 := Tryz.zeroValue130
  g14 := by kernel_rfl
  t9 := Tryz.underlying9
  a9 := Tryz.isAgg9
  z9 := Tryz.sizeOf9
  v9 := Tryz.zeroValue9
  t80 := Tryz.underlying97
  a80 := Tryz.isAgg97
  z80 := Tryz.sizeOf97
  v80 := Tryz.zeroValue97
  i0 := by kernel_rfl
  i3 := by kernel_rfl
  i4 := by kernel_rfl
  i5 := by kernel_rfl
  i9 := by kernel_rfl
  i20 := by kernel_rfl
  i37 := by kernel_rfl
  i75 := by kernel_rfl
  i80 := by kernel_rfl
  i91 := by kernel_rfl
  i93 := by kernel_rfl
  i130 := by kernel_rfl
  i131 := by kernel_rfl
  m14 := by kernel_rfl }
def Tryz.lays180_ren : Go.Shelf.Ren := ⟨fun | 180 => 190 | 251 => 108 | 252 => 109 | 181 => 139 | 184 => 140 | 290 => 141 | 324 => 152 | n => n, fun | 130 => 112 | 37 => 28 | 3 => 3 | 75 => 67 | 0 => 0 | 93 => 116 | 91 => 114 | 131 => 130 | 4 => 4 | 20 => 20 | 5 => 5 | 80 => 97 | 9 => 9 | n => n, fun | 14 => 3 | n => n⟩
theorem Tryz.lays180 : LaysM.n180 Tryz.prog Tryz.lays180_ren := {
  mixed := by kernel_rfl
  f180 := Tryz.func190.trans (congrArg some (by kernel_rfl))
  f181 := Tryz.func139.trans (congrArg some (by kernel_rfl))
  f184 := Tryz.func140.trans (congrArg some (by kernel_rfl))
  f251 := Tryz.func108.trans (congrArg some (by kernel_rfl))
  f252 := Tryz.func109.trans (congrArg some (by kernel_rfl))
  f290 := Tryz.func141.trans (congrArg some (by kernel_rfl))
  f324 := Tryz.func152.trans (congrArg some (by kernel_rfl))
  t0 := Tryz.underlying0
  a0 := Tryz.isAgg0
  z0 := Tryz.sizeOf0
  v0 := Tryz.zeroValue0
  t3 := Tryz.underlying3
  a3 := Tryz.isAgg3
  z3 := Tryz.sizeOf3
  v3 := Tryz.zeroValue3
  t4 := Tryz.underlying4
  a4 := Tryz.isAgg4
  z4 := Tryz.sizeOf4
  v4 := Tryz.zeroValue4
  t20 := Tryz.underlying20
  a20 := Tryz.isAgg20
  z20 := Tryz.sizeOf20
  v20 := Tryz.zeroValue20
  t37 := Tryz.underlying28
  a37 := Tryz.isAgg28
  z37 := Tryz.sizeOf28
  v37 := Tryz.zeroValue28
  t75 := Tryz.underlying67
  a75 := Tryz.isAgg67
  z75 := Tryz.sizeOf67
  v75 := Tryz.zeroValue67
  t91 := Tryz.underlying114
  a91 := Tryz.isAgg114
  z91 := Tryz.sizeOf114
  v91 := Tryz.zeroValue114
  t93 := Tryz.underlying116
  a93 := Tryz.isAgg116
  z93 := Tryz.sizeOf116
  v93 := Tryz.zeroValue116
  t130 := Tryz.underlying112
  a130 := Tryz.isAgg112
  z130 := Tryz.sizeOf112
  v130 := Tryz.zeroValue112
  t131 := Tryz.underlying130
  a131 := Tryz.isAgg130
  z131 := Tryz.sizeOf130
  v131 := Tryz.zeroValue130
  g14 := by kernel_rfl
  t5 := Tryz.underlying5
  a5 := Tryz.isAgg5
  z5 := Tryz.sizeOf5
  v5 := Tryz.zeroValue5
  t9 := Tryz.underlying9
  a9 := Tryz.isAgg9
  z9 := Tryz.sizeOf9
  v9 := Tryz.zeroValue9
  t80 := Tryz.underlying97
  a80 := Tryz.isAgg97
  z80 := Tryz.sizeOf97
  v80 := Tryz.zeroValue97
  i0 := by kernel_rfl
  i3 := by kernel_rfl
  i4 := by kernel_rfl
  i5 := by kernel_rfl
  i9 := by kernel_rfl
  i20 := by kernel_rfl
  i37 := by kernel_rfl
  i75 := by kernel_rfl
  i80 := by kernel_rfl
  i91 := by kernel_rfl
  i93 := by kernel_rfl
  i130 := by kernel_rfl
  i131 := by kernel_rfl
  m14 := by kernel_rfl }
def Tryz.lays183_ren : Go.Shelf.Ren := ⟨fun | 183 => 80 | n => n, fun | 130 => 112 | 37 => 28 | 0 => 0 | 93 => 116 | 3 => 3 | 5 => 5 | 91 => 114 | n => n, fun | n => n⟩
theorem Tryz.lays183 : LaysM.n183 Tryz.prog Tryz.lays183_ren := {
  mixed := by kernel_rfl
  f183 := Tryz.func80.trans (congrArg some (by kernel_rfl))
  t0 := Tryz.underlying0
  a0 := Tryz.isAgg0
  z0 := Tryz.sizeOf0
  v0 := Tryz.zeroValue0
  t3 := Tryz.underlying3
  a3 := Tryz.isAgg3
  z3 := Tryz.sizeOf3
  v3 := Tryz.zeroValue3
  t37 := Tryz.underlying28
  a37 := Tryz.isAgg28
  z37 := Tryz.sizeOf28
  v37 := Tryz.zeroValue28
  t93 := Tryz.underlying116
  a93 := Tryz.isAgg116
  z93 := Tryz.sizeOf116
  v93 := Tryz.zeroValue116
  t130 := Tryz.underlying112
  a130 := Tryz.isAgg112
  z130 := Tryz.sizeOf112
  v130 := Tryz.zeroValue112
  t5 := Tryz.underlying5
  a5 := Tryz.isAgg5
  z5 := Tryz.sizeOf5
  v5 := Tryz.zeroValue5
  t91 := Tryz.underlying114
  a91 := Tryz.isAgg114
  z91 := Tryz.sizeOf114
  v91 := Tryz.zeroValue114
  i0 := by kernel_rfl
  i3 := by kernel_rfl
  i5 := by kernel_rfl
  i37 := by kernel_rfl
  i91 := by kernel_rfl
  i93 := by kernel_rfl
  i130 := by kernel_rfl }

abbrev BufAt (B b : Nat) (l : List UInt8) (w : World) : Prop := Lib.IsBuffer 116 5 B b (l.map byteV) w
theorem bufString (B b : Nat) (l s : List UInt8) (w : World) (h : BufAt B b l w) (hB : B ≤ w.heap.size) (hl : l.length + s.length ≤ 1000000) :
    Calls Tryz.prog 76 #[.pointer (some ⟨b, 0, none⟩), .string ⟨s.toArray⟩] w fun e w' => (∃ r, e = .returned r) ∧ BufAt B b (l ++ s) w' ∧ Below B w w' ∧ Lib.OthersKept 5 (some b) w w' := by
  have hsz : (⟨s.toArray⟩ : ByteArray).size = s.length := by simp [ByteArray.size]
  refine (Any.Buffer_WriteString_k Tryz.lays178 B b (l.map byteV) ⟨s.toArray⟩ w h hB (fun v hv => by obtain ⟨x, _, rfl⟩ := List.mem_map.1 hv; rfl) (by rw [List.length_map, hsz]; omega)).mono ?_
  rintro e w' ⟨h1, h2, h3, h4⟩
  refine ⟨⟨_, h1⟩, ?_, h3, h4⟩
  have h5 : Lib.byteCells (⟨s.toArray⟩ : ByteArray).data.toList = s.map byteV := byteCells_map s
  rw [h5] at h2
  unfold BufAt
  rw [List.map_append]
  exact h2
theorem bufByte (B b : Nat) (l : List UInt8) (x : UInt8) (w : World) (h : BufAt B b l w) (hB : B ≤ w.heap.size) (hl : l.length ≤ 1000000) :
    Calls Tryz.prog 77 #[.pointer (some ⟨b, 0, none⟩), .int .u8 (x.toNat : Int)] w fun e w' => (∃ r, e = .returned r) ∧ BufAt B b (l ++ [x]) w' ∧ Below B w w' ∧ Lib.OthersKept 5 (some b) w w' := by
  refine (Any.Buffer_WriteByte_k Tryz.lays179 B b (l.map byteV) (x.toNat : Int) w h hB (fun v hv => by obtain ⟨x, _, rfl⟩ := List.mem_map.1 hv; rfl) (by rw [List.length_map]; omega)).mono ?_
  rintro e w' ⟨h1, h2, h3, h4⟩
  refine ⟨⟨_, h1⟩, ?_, h3, h4⟩
  unfold BufAt
  rw [List.map_append]
  exact h2
theorem bufBytes (B b : Nat) (l : List UInt8) (w : World) (h : BufAt B b l w) :
    Calls Tryz.prog 80 #[.pointer (some ⟨b, 0, none⟩)] w fun e w' => ∃ A c, e = .returned (.slice A l.length c) ∧ w'.ownsRow B 5 1 (.slice A l.length c) l.length (l.map byteV) ∧ ∃ n, w' = w.drewN n := by
  refine (Any.Buffer_Bytes Tryz.lays183 B b (l.map byteV) w h).mono ?_
  rintro e w' ⟨v, h1, h2, h3⟩
  rw [List.length_map] at h2
  rcases h2.2 with ⟨hv, h0⟩ | ⟨g, cap, cur, hv, h4⟩
  · have hl : l.length = 0 := h0
    exact ⟨none, 0, by rw [h1, hv, hl], by rw [hl] at h2 ⊢; rw [← hv]; exact h2, h3⟩
  · exact ⟨some ⟨g, 0, none⟩, cap, by rw [h1, hv], by rw [← hv]; exact h2, h3⟩

/-- Blocks that a write to the buffer leaves: not rows of bytes, or rows that begin otherwise than the buffer's. -/
def Else (l : List UInt8) (w : World) (k : Nat) : Prop := ∃ cur t fr, w.heap[k]? = some (.cells cur t fr) ∧ ∀ x, l[0]? = some x → cur[0]? ≠ some (byteV x)
set_option maxHeartbeats 3200000 in
set_option maxRecDepth 100000 in
theorem bufWrite (B b : Nat) (l xs : List UInt8) (a : Addr) (c : Nat) (w : World) (h : BufAt B b l w) (hB : B ≤ w.heap.size) (hl0 : 0 < l.length) (hx0 : 0 < xs.length) (hl : l.length + xs.length ≤ 1000000) (hab : a.block ≠ b) (hsrc : ∀ j x, xs[j]? = some x → w.cell? (a.add j) = some (byteV x)) :
    Calls Tryz.prog 190 #[.pointer (some ⟨b, 0, none⟩), .slice (some a) xs.length c] w fun e w' => e = .returned (.tuple #[.int .i64 (xs.length : Int), .nilIface]) ∧ BufAt B b (l ++ xs) w' ∧ Below B w w' ∧ Lib.OthersKept 5 (some b) w w' ∧ ∀ k, k ≠ b → Else l w k → w'.heap[k]? = w.heap[k]? := by
  have hi5 : (Tryz.prog.info? 5).map (·.size) = some 1 := by kernel_rfl
  have h1 : ∀ v ∈ l.map byteV, v.oneCell' = true := fun v hv => by obtain ⟨x, _, rfl⟩ := List.mem_map.1 hv; rfl
  obtain ⟨hBb, v0, lr, hbk, -, -⟩ := id h
  have c2 : w.cell? ⟨b, 2, none⟩ = some (.int .i8 lr) := by rw [Lib.cell_of_heap hbk]; rfl
  have f2 : w.frozen? ⟨b, 2, none⟩ = false := Lib.frozen_of_heap hbk 2
  obtain ⟨W1, hW1⟩ : ∃ W, W = w.setCell ⟨b, 2, none⟩ (.int .i8 0) := ⟨_, rfl⟩
  have h' : BufAt B b l W1 := by rw [hW1]; exact Lib.IsBuffer.setLast h 0
  have hbel0 : Below B w W1 := by rw [hW1]; exact (Below.refl B w).setCell (p := ⟨b, 2, none⟩) hBb _
  have hk0 : Lib.OthersKept 5 (some b) w W1 := by rw [hW1]; exact (Lib.OthersKept.refl _ _ w).setCell ⟨b, 2, none⟩ rfl _
  have hg0 : w.grownBy W1 (some b) := by rw [hW1]; exact Lib.grownBy_setCell w b 2 _
  have hBw' : B ≤ W1.heap.size := Nat.le_trans hB hbel0.size
  -- once there is room: copy
  have HF : ∀ (W2 : World) (ys : List Value), ys.length = xs.length → Lib.IsBuffer 116 5 B b (l.map byteV ++ ys) W2 → Below B w W2 → Lib.OthersKept 5 (some b) w W2 → w.grownBy W2 (some b) →
      ∃ g cap, W2.cell? ⟨b, 0, none⟩ = some (.slice (some ⟨g, 0, none⟩) (l.length + xs.length) cap) ∧ l.length + xs.length ≤ cap ∧ cap ≤ 9223372036854775807 ∧ ∃ W3, (Builtin.copy_ #[28, 28] 3 #[.slice (some ⟨g, l.length, none⟩) xs.length (cap - l.length), .slice (some a) xs.length c]).run Tryz.prog W2 = .ok (.int .i64 (xs.length : Int)) W3 ∧
        BufAt B b (l ++ xs) W3 ∧ Below B w W3 ∧ Lib.OthersKept 5 (some b) w W3 ∧ ∀ k, k ≠ b → Else l w k → W3.heap[k]? = w.heap[k]? := by
    intro W2 ys hys hI hbel hk hg
    obtain ⟨-, lr2, hc⟩ := hI.cases
    rcases hc with ⟨hnil, -⟩ | ⟨g, cap, cur, hbk2, hBg, hgr, hnc, hcm, hcs, htk, hgb⟩
    · have := congrArg List.length hnil
      rw [List.length_append, hys, List.length_nil] at this
      omega
    · rw [List.length_append, hys, List.length_map] at hbk2 hnc htk
      have d0 : W2.cell? ⟨b, 0, none⟩ = some (.slice (some ⟨g, 0, none⟩) (l.length + xs.length) cap) := by rw [Lib.cell_of_heap hbk2]; rfl
      have hsrc1 : ∀ j v, (xs.map byteV)[j]? = some v → W2.cell? (a.add j) = some v := fun j v hj => by
        rw [List.getElem?_map] at hj
        cases hx : xs[j]? with
        | none => rw [hx] at hj; cases hj
        | some x =>
          rw [hx] at hj
          injection hj with hj
          subst hj
          exact hg.cell (hsrc j x hx) (by rw [Lib.block_add]; exact fun e => hab (Option.some.inj e))
      have hcm' := hcm
      unfold maxLen at hcm'
      have hcp := run_copy_row (P := Tryz.prog) W2 28 28 3 5 g l.length xs.length (cap - l.length) a xs.length c cur 5 (xs.map byteV) Tryz.underlying28 hi5 hgr (by rw [List.length_map]; exact (Nat.min_self _).symm) hsrc1 (by rw [List.length_map]; omega) (fun v hv => by obtain ⟨x, _, rfl⟩ := List.mem_map.1 hv; rfl)
      rw [List.length_map] at hcp
      obtain ⟨r1, r2⟩ := Lib.written_end (news := xs.map byteV) (l := l.length) hBb (by rw [List.length_map]; exact hbk2) hBg hgr hcm hcs hgb (by rw [List.length_map]; exact hnc)
      have e1 : cur.toList.take l.length = l.map byteV := by
        have h3 := congrArg (List.take l.length) htk
        rwa [List.take_take, Nat.min_eq_left (Nat.le_add_right _ _), List.take_left' (by rw [List.length_map])] at h3
      refine ⟨g, cap, d0, hnc, hcm', _, hcp, ?_, hbel.trans ?_, hk.setRow hgr _, fun k hkb hel => ?_⟩
      · unfold BufAt
        rw [List.map_append, ← e1]
        rw [List.length_map] at r1
        exact r1
      · rw [List.length_map] at r2
        exact r2
      · obtain ⟨cur', t', fr', hk', hne⟩ := hel
        have hkl : k < w.heap.size := Lib.lt_of_heap hk'
        have e2 : W2.heap[k]? = w.heap[k]? := hg.block k hkl (fun e => hkb (Option.some.inj e))
        have hgk : k ≠ g := by
          intro e
          subst e
          rw [hgr, hk'] at e2
          injection e2 with e2
          injection e2 with e3 _ _
          subst e3
          obtain ⟨x, hx⟩ : ∃ x, l[0]? = some x := ⟨_, List.getElem?_eq_getElem hl0⟩
          refine hne x hx ?_
          have h3 := congrArg (fun q : List Value => q[0]?) htk
          simp only [List.getElem?_take] at h3
          rw [if_pos (by omega), List.getElem?_append_left (by rw [List.length_map]; exact hl0), List.getElem?_map, hx, Array.getElem?_toList] at h3
          exact h3
        rw [← e2]
        exact setRow_other _ _ _ _ hgk
  have HF := Lib.hid HF
  have HH := Lib.hid h'
  have HL := Lib.hid (And.intro hl0 (And.intro hx0 (And.intro hl hBw')))
  have HB0 := Lib.hid hbel0
  have HK0 := Lib.hid hk0
  have HG0 := Lib.hid hg0
  have HW1 := Lib.hid hW1
  obtain ⟨i0, hi0, _, hsz, _⟩ := info_parts info_u8
  have HS1 := Lib.hid (fun (g cap : Nat) (hc : l.length + xs.length ≤ cap) => show ∀ W : World, (Instr.slice 28 (.slice (some ⟨g, 0, none⟩) (l.length + xs.length) cap) (some (.int .i64 (l.length : Int))) none none).run Tryz.prog W = .ok (.slice (some ⟨g, l.length, none⟩) xs.length (cap - l.length)) W from fun W => by
    have := slice_from_o (P := Tryz.prog) 28 5 Tryz.underlying28 hi0 hsz g 0 (l.length + xs.length) cap l.length (by omega) hc W
    rw [show l.length + xs.length - l.length = xs.length by omega, Nat.zero_add] at this
    exact this)
  clear hW1 h hB h' hbel0 hk0 hg0 hBw' hl hl0 hx0 hab hsrc hbk v0 hi5 hi0 hsz
  go_enter Tryz.func190, Tryz.ntmps190
  go_wp2_with (go_at_call 108; rw [← HW1.out]; refine (Any.Buffer_tryGrow_own { Tryz.lays180 with } B b xs.length (l.map byteV) W1 HH.out).mono ?_; refine Hid.out ?_)
  refine Lib.hid ?_
  rintro e w2 (⟨rfl, ys, hys, hI, hbel, hk, hg⟩ | ⟨rfl, rfl, hnr⟩)
  · obtain ⟨g, cap, d0, hnc, hcm, W3, hcp, r1, r2, r3, r4⟩ := HF.out w2 ys hys hI (HB0.out.trans hbel) (HK0.out.trans hk) (Lib.grownBy_trans HG0.out hg)
    have R := Lib.hid (And.intro r1 (And.intro r2 (And.intro r3 r4)))
    have s1 := HS1.out g cap hnc
    clear hI hbel hk hg r1 r2 r3 r4 c2 f2
    rw [List.length_map]
    go_wp2_with fail
    go_ret2
    exact ⟨rfl, R.out.1, R.out.2.1, R.out.2.2.1, R.out.2.2.2⟩
  · clear c2 f2
    go_wp2_with (go_at_call 109; refine (Any.Buffer_grow_own { Tryz.lays180 with } B b xs.length (l.map byteV) w2 HH.out hnr HL.out.2.2.2 (fun v hv => by obtain ⟨x, _, rfl⟩ := List.mem_map.1 hv; rfl) (by rw [List.length_map]; have := HL.out.2.2.1; omega)).mono ?_; refine Hid.out ?_)
    refine Lib.hid ?_
    rintro e w3 ⟨rfl, ys, hys, hI, hbel, hk, hg⟩
    obtain ⟨g, cap, d0, hnc, hcm, W3, hcp, r1, r2, r3, r4⟩ := HF.out w3 ys hys hI (HB0.out.trans hbel) (HK0.out.trans hk) (Lib.grownBy_trans HG0.out hg)
    have R := Lib.hid (And.intro r1 (And.intro r2 (And.intro r3 r4)))
    have s1 := HS1.out g cap hnc
    clear hI hbel hk hg r1 r2 r3 r4 hnr
    rw [List.length_map]
    go_wp2_with fail
    go_ret2
    exact ⟨rfl, R.out.1, R.out.2.1, R.out.2.2.1, R.out.2.2.2⟩

end Go.Proofs.YtoeepfmmceilaaaGreatDoor
