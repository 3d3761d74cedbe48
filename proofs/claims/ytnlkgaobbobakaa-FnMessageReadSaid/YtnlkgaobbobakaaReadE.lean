/- spec.ReadMessage of no bytes, and of a number that has no shape; impl.ReadMessage of no bytes. -/
import Derived.Test.YtnlkgaobbobakaaImRead
set_option linter.unusedVariables false
set_option linter.unusedSimpArgs false
namespace Go.Proofs.Ytnlkgaobbobakaa
open Go.RowKit

theorem msg_none_S (w : World) (n : Int) : MsgS all_ w (.agg #[.int .i64 n, .slice none 0 0, .slice none 0 0, .slice none 0 0, .slice none 0 0, .slice none 0 0]) (Msg.none_ n) :=
  ⟨_, _, _, _, _, rfl, SL.none_ _ _ _, SL.none_ _ _ _, SL.none_ _ _ _, SL.none_ _ _ _, SL.none_ _ _ _⟩

set_option maxRecDepth 100000 in
set_option maxHeartbeats 1600000 in
theorem read_empty (w0 : World) (A : Option Addr) (c : Nat) : Calls Try.prog 9 #[.slice A 0 c] w0 (ReadEnd w0 []) := by
  go_enter Try.func9, Try.ntmps9
  go_wp2_with fail
  refine bodyPost_ret (v := .tuple #[.agg #[.int .i64 0, .slice none 0 0, .slice none 0 0, .slice none 0 0, .slice none 0 0, .slice none 0 0], .int .i64 1]) (by simp [results, Try.results9, go_sem]) rfl ?_
  exact ⟨_, rfl, msg_none_S _ 0, (Below.refl _ _).alloc (Nat.le_refl _) _⟩
set_option maxRecDepth 100000 in
set_option maxHeartbeats 1600000 in
theorem read_open (w0 : World) (A : Option Addr) (c : Nat) (x : UInt8) (r : List UInt8) (hf : shapeP x.toNat = none) (hr : RR (lit byteV) all_ w0 A (x :: r)) (hrl : r.length ≤ 1000000) : Calls Try.prog 9 #[.slice A (r.length + 1) c] w0 (ReadEnd w0 (x :: r)) := by
  obtain ⟨ad, rfl, _, hcell⟩ := RB.at hr (by simp)
  have c0 : w0.cell? ad = some (.int .u8 (x.toNat : Int)) := hcell 0 x rfl
  have hlt := blk_lt_of_cell c0
  have HF := Lib.hid hf
  have h2 : (((r.length : Int) + 1) == 0) = false := by simp; omega
  have hb0 := byte_le x
  clear hcell hr hf
  go_enter Try.func9, Try.ntmps9
  go_wp2_with fail
  refine (shape_any _ _).mono ?_
  rintro e w1 ⟨rfl, rfl⟩
  rw [HF.out]
  go_wp2_with fail
  refine bodyPost_ret (v := .tuple #[.agg #[.int .i64 (x.toNat : Int), .slice none 0 0, .slice none 0 0, .slice none 0 0, .slice none 0 0, .slice none 0 0], .int .i64 2]) (by simp [results, Try.results9, go_sem]) rfl ?_
  unfold ReadEnd
  have e : readP (x :: r) = (Msg.none_ x.toNat, 2) := by unfold readP; simp only [HF.out]
  rw [e]
  exact ⟨_, rfl, msg_none_S _ _, ((Below.refl _ _).alloc (Nat.le_refl _) _).alloc (by simp) _⟩
set_option maxRecDepth 100000 in
set_option maxHeartbeats 1600000 in
theorem im_empty (w0 : World) (A : Option Addr) (c : Nat) : Calls Try.prog 10 #[.slice A 0 c] w0 (ImEnd w0 none) := by
  go_enter Try.func10, Try.ntmps10
  go_wp2_with fail
  refine bodyPost_ret (v := .tuple #[.agg #[.int .i64 0, .slice none 0 0, .slice none 0 0, .slice none 0 0, .slice none 0 0, .slice none 0 0], .bool false]) (by simp [results, Try.results10, go_sem]) rfl ?_
  exact ⟨((Below.refl _ _).alloc (Nat.le_refl _) _).alloc (by simp) _, rfl⟩

end Go.Proofs.Ytnlkgaobbobakaa
