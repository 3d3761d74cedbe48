/- io.ReadFull of a reader that fills what it is handed, or that tells its end. -/
import Derived.Test.YtmblpmmnglmjfaaGreatDoorAgBytes
set_option linter.unusedVariables false
set_option linter.unusedSimpArgs false
namespace Go.Proofs.YtmblpmmnglmjfaaGreatDoor
open Go.RowKit

set_option maxRecDepth 100000 in
set_option maxHeartbeats 800000 in
theorem atLeast_ok (w : World) (T F k c : Nat) (v : Value) (p : Addr) (Q : World → Prop) (hk : 0 < k) (hk2 : k ≤ 1000000) (hkc : k ≤ c) (hc : c ≤ 9223372036854775807)
    (hme : ∀ W : World, (method 539 T v "Read").run Tryz.prog W = .ok (F, v) W)
    (hna : ∀ W : World, (nilAhead 539 T v "Read").run Tryz.prog W = .ok (some false) W)
    (hcf : ∀ W : World, (callFunc F #[v, .slice (some p) k c]).run Tryz.prog W = .ok (.enter F #[v, .slice (some p) k c]) W)
    (hQ : ∀ W W', Q W → Below W.heap.size W W' → Q W')
    (h : ∀ W, Below w.heap.size w W → Calls Tryz.prog F #[v, .slice (some p) k c] W fun e w' => e = .returned (.tuple #[.int .i64 (k : Int), .nilIface]) ∧ Q w') :
    Calls Tryz.prog 37 #[.iface T v, .slice (some p) k c, .int .i64 (k : Int)] w fun e w' => e = .returned (.tuple #[.int .i64 (k : Int), .nilIface]) ∧ Q w' := by
  have HQ := Lib.hid hQ
  have HH := Lib.hid h
  clear h hQ
  have t1 : ((k : Int) < (k : Int)) = False := by simp
  have t2 : ((0 : Int) < (k : Int)) = True := by simp [hk]
  go_enter Tryz.func37, Tryz.ntmps37
  go_wp2_with fail
  go_loopg [6, 7] 1 (fun gk v6 v7 wr => v7 = .nilIface ∧ ((gk = 1 ∧ v6 = .int .i64 0 ∧ wr = w) ∨ (gk = 0 ∧ v6 = .int .i64 (k : Int) ∧ Hid (Q wr))))
  case atStart => exact ⟨rfl, .inl ⟨rfl, rfl, rfl⟩⟩
  case round =>
    obtain ⟨rfl, ⟨rfl, rfl, rfl⟩ | ⟨rfl, rfl, hq⟩⟩ := hrel
    · go_wp2_with fail
      go_region_law (go_simp; refine (HH.out _ ((Below.refl _ _).drew)).mono ?_; rintro e w1 ⟨rfl, hq⟩)
      have HQ1 := Lib.hid hq
      clear hq
      go_wp2_with fail
      go_roundg 0
      case measure => omega
      case rel => exact ⟨rfl, .inr ⟨rfl, by go_num, HQ1⟩⟩
    · go_wp2_with fail
      go_ret2
      exact ⟨rfl, hq.out⟩

set_option maxRecDepth 100000 in
set_option maxHeartbeats 800000 in
theorem atLeast_err (w : World) (T F k c T2 : Nat) (v v2 : Value) (p : Addr) (Q : World → Prop) (hk : 0 < k) (hk2 : k ≤ 1000000) (hkc : k ≤ c) (hc : c ≤ 9223372036854775807)
    (hme : ∀ W : World, (method 539 T v "Read").run Tryz.prog W = .ok (F, v) W)
    (hna : ∀ W : World, (nilAhead 539 T v "Read").run Tryz.prog W = .ok (some false) W)
    (hcf : ∀ W : World, (callFunc F #[v, .slice (some p) k c]).run Tryz.prog W = .ok (.enter F #[v, .slice (some p) k c]) W)
    (hQ : ∀ W W', Q W → Below W.heap.size W W' → Q W')
    (h : ∀ W, Below w.heap.size w W → Calls Tryz.prog F #[v, .slice (some p) k c] W fun e w' => e = .returned (.tuple #[.int .i64 0, .iface T2 v2]) ∧ Q w') :
    Calls Tryz.prog 37 #[.iface T v, .slice (some p) k c, .int .i64 (k : Int)] w fun e w' => e = .returned (.tuple #[.int .i64 0, .iface T2 v2]) ∧ Q w' := by
  have HQ := Lib.hid hQ
  have HH := Lib.hid h
  clear h hQ
  have t1 : ((k : Int) < (k : Int)) = False := by simp
  have t3 : ((k : Int) ≤ 0) = False := by simp; omega
  have t2 : ((0 : Int) < (k : Int)) = True := by simp [hk]
  go_enter Tryz.func37, Tryz.ntmps37
  go_wp2_with fail
  go_loopg [6, 7] 1 (fun gk v6 v7 wr => v6 = .int .i64 0 ∧ ((gk = 1 ∧ v7 = .nilIface ∧ wr = w) ∨ (gk = 0 ∧ v7 = .iface T2 v2 ∧ Hid (Q wr))))
  case atStart => exact ⟨rfl, .inl ⟨rfl, rfl, rfl⟩⟩
  case round =>
    obtain ⟨rfl, ⟨rfl, rfl, rfl⟩ | ⟨rfl, rfl, hq⟩⟩ := hrel
    · go_wp2_with fail
      go_region_law (go_simp; refine (HH.out _ ((Below.refl _ _).drew)).mono ?_; rintro e w1 ⟨rfl, hq⟩)
      have HQ1 := Lib.hid hq
      clear hq
      go_wp2_with fail
      go_roundg 0
      case measure => omega
      case rel => exact ⟨rfl, .inr ⟨rfl, by go_num, HQ1⟩⟩
    · go_wp2_with fail
      go_ret2
      exact ⟨rfl, hq.out⟩


theorem full_ok (w : World) (T F k c : Nat) (v : Value) (p : Addr) (Q : World → Prop) (hk : 0 < k) (hk2 : k ≤ 1000000) (hkc : k ≤ c) (hc : c ≤ 9223372036854775807)
    (hme : ∀ W : World, (method 539 T v "Read").run Tryz.prog W = .ok (F, v) W)
    (hna : ∀ W : World, (nilAhead 539 T v "Read").run Tryz.prog W = .ok (some false) W)
    (hcf : ∀ W : World, (callFunc F #[v, .slice (some p) k c]).run Tryz.prog W = .ok (.enter F #[v, .slice (some p) k c]) W)
    (hQ : ∀ W W', Q W → Below W.heap.size W W' → Q W')
    (h : ∀ W, Below w.heap.size w W → Calls Tryz.prog F #[v, .slice (some p) k c] W fun e w' => e = .returned (.tuple #[.int .i64 (k : Int), .nilIface]) ∧ Q w') :
    Calls Tryz.prog 29 #[.iface T v, .slice (some p) k c] w fun e w' => e = .returned (.tuple #[.int .i64 (k : Int), .nilIface]) ∧ Q w' := by
  have HA := Lib.hid (atLeast_ok w T F k c v p Q hk hk2 hkc hc hme hna hcf hQ h)
  clear h hQ hme hna hcf
  go_enter Tryz.func29, Tryz.ntmps29
  go_wp2_with (go_at_call 37; refine HA.out.mono ?_; rintro e w1 ⟨rfl, hq⟩)
  go_ret2
  exact ⟨rfl, hq⟩

theorem full_err (w : World) (T F k c T2 : Nat) (v v2 : Value) (p : Addr) (Q : World → Prop) (hk : 0 < k) (hk2 : k ≤ 1000000) (hkc : k ≤ c) (hc : c ≤ 9223372036854775807)
    (hme : ∀ W : World, (method 539 T v "Read").run Tryz.prog W = .ok (F, v) W)
    (hna : ∀ W : World, (nilAhead 539 T v "Read").run Tryz.prog W = .ok (some false) W)
    (hcf : ∀ W : World, (callFunc F #[v, .slice (some p) k c]).run Tryz.prog W = .ok (.enter F #[v, .slice (some p) k c]) W)
    (hQ : ∀ W W', Q W → Below W.heap.size W W' → Q W')
    (h : ∀ W, Below w.heap.size w W → Calls Tryz.prog F #[v, .slice (some p) k c] W fun e w' => e = .returned (.tuple #[.int .i64 0, .iface T2 v2]) ∧ Q w') :
    Calls Tryz.prog 29 #[.iface T v, .slice (some p) k c] w fun e w' => e = .returned (.tuple #[.int .i64 0, .iface T2 v2]) ∧ Q w' := by
  have HA := Lib.hid (atLeast_err w T F k c T2 v v2 p Q hk hk2 hkc hc hme hna hcf hQ h)
  clear h hQ hme hna hcf
  go_enter Tryz.func29, Tryz.ntmps29
  go_wp2_with (go_at_call 37; refine HA.out.mono ?_; rintro e w1 ⟨rfl, hq⟩)
  go_ret2
  exact ⟨rfl, hq⟩

end Go.Proofs.YtmblpmmnglmjfaaGreatDoor
