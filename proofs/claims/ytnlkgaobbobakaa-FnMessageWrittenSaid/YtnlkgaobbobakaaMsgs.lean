/- laws.messages: true. -/
import Derived.Test.YtnlkgaobbobakaaImRead
set_option linter.unusedVariables false
set_option linter.unusedSimpArgs false
namespace Go.Proofs.Ytnlkgaobbobakaa
open Go.RowKit

set_option maxRecDepth 100000 in
set_option maxHeartbeats 1600000 in
theorem messages_walk (w0 : World) : Calls Try.prog 7 #[] w0 fun e w' => e = .returned (.bool true) ∧ Below w0.heap.size w0 w' := by
  obtain ⟨L, h1, h2, h3, h4⟩ := zz_any 5 [0, 0, 0, 1, 97] [115] (by decide) (by decide) (by decide)
  have hblk := Blk.new w0 5 #[.int .u8 5, .int .u8 0, .int .u8 0, .int .u8 0, .int .u8 1, .int .u8 97]
  have hr : RR (lit byteV) all_ (w0.alloc (.cells #[.int .u8 5, .int .u8 0, .int .u8 0, .int .u8 0, .int .u8 1, .int .u8 97] 5)) (some ⟨w0.heap.size, 0, none⟩) (5 :: [0, 0, 0, 1, 97]) := by
    intro i x hx
    refine ⟨_, _, rfl, trivial, ?_, rfl⟩
    rw [add_mk, hblk.cell]
    match i, hx with
    | 0, hx => simp at hx; subst hx; rfl
    | 1, hx => simp at hx; subst hx; rfl
    | 2, hx => simp at hx; subst hx; rfl
    | 3, hx => simp at hx; subst hx; rfl
    | 4, hx => simp at hx; subst hx; rfl
    | 5, hx => simp at hx; subst hx; rfl
    | n + 6, hx => simp at hx
  have hP : imP 5 [0, 0, 0, 1, 97] [115] = some ⟨5, [], [[97]], [], [], []⟩ := by rfl
  have hw := im_walk _ (some ⟨w0.heap.size, 0, none⟩) 6 5 [0, 0, 0, 1, 97] [115] L h1 h2 h3 h4 (by decide) hr
  rw [hP] at hw
  have HW := Lib.hid (show Calls Try.prog 10 #[.slice (some ⟨w0.heap.size, 0, none⟩) 6 6] (w0.alloc (.cells #[.int .u8 5, .int .u8 0, .int .u8 0, .int .u8 0, .int .u8 1, .int .u8 97] 5)) _ from hw)
  clear hw hP hr hblk h1 h2 h3 h4
  go_enter Try.func7, Try.ntmps7
  go_wp2_with fail
  refine HW.out.mono ?_
  rintro e w1 ⟨hb, v, rfl, vI, vS, vN, vT, vB, rfl, hI, ⟨AS, cS, rfl, s1, s2, hS⟩, hN, ⟨AT, cT, rfl, _, _, _⟩, ⟨AB, cB, rfl, _, _, _⟩⟩
  obtain ⟨AI, cI, rfl, _, _, _⟩ := hI
  obtain ⟨AN, cN, rfl, _, _, _⟩ := hN
  obtain ⟨ad, u, rfl, _, hc, hu⟩ := hS 0 [97] rfl
  subst hu
  have HB := Lib.hid hb
  have hc1 : w1.cell? ad = some (.string ⟨#[97]⟩) := hc
  have hlt := blk_lt_of_cell hc1
  clear hS hb hc
  go_wp2_with fail
  go_ret
  exact ⟨rfl, (((Below.refl _ _).alloc (Nat.le_refl _) _).trans (HB.out.mono (by simp))).alloc (Nat.le_trans (by simp) HB.out.size) _⟩

end Go.Proofs.Ytnlkgaobbobakaa
