/- laws.named, laws.figures, spec.Normal; knownhosts.Normalize, impl.Normalized. -/
import Derived.Test.YtoeepfmmceilaaaGreatDoorLnSplit
import Derived.Test.YtoeepfmmceilaaaGreatDoorLnCalm
import Derived.Test.YtoeepfmmceilaaaGreatDoorLnB64
set_option linter.unusedVariables false
set_option linter.unusedSimpArgs false
namespace Go.Proofs.YtoeepfmmceilaaaGreatDoor
open Go.RowKit

def digS (n : Nat) : UInt8 := UInt8.ofNat (48 + n)
/-- The digits of a number below 10^(f + 1). -/
def figP : Nat → Nat → List UInt8
  | 0, n => [digS n]
  | f + 1, n => if n < 10 then [digS n] else figP f (n / 10) ++ [digS (n % 10)]
def digitsS : List UInt8 := [48, 49, 50, 51, 52, 53, 54, 55, 56, 57]
theorem digit_at : ∀ d : Fin 10, (digitsS.take (d.val + 1)).drop d.val = [digS d.val] := by decide
set_option maxHeartbeats 400000 in
theorem fig_one (n : Nat) (w : World) (h : n < 10) : Calls Tryz.prog 15 #[.int .i64 (n : Int)] w fun e w' => e = .returned (.string ⟨#[digS n]⟩) ∧ w' = w := by
  have hs : ∀ W : World, (Instr.slice 9 (.string ⟨#[48, 49, 50, 51, 52, 53, 54, 55, 56, 57]⟩) (some (.int .i64 (n : Int))) (some (.int .i64 ((n : Int) + 1))) none).run Tryz.prog W = .ok (.string ⟨#[digS n]⟩) W := fun W => by
    have := slS_mid digitsS n (n + 1) (by omega) (by show n + 1 ≤ 10; omega) W
    rw [digit_at ⟨n, h⟩] at this
    exact this
  have h10 : ((n : Int) < 10) = True := eq_true (by omega)
  have hw : wrap64 ((n : Int) + 1) = (n : Int) + 1 := by unfold wrap64; omega
  clear h
  go_enter Tryz.func15, Tryz.ntmps15
  go_wp2_with fail
  go_ret
  exact ⟨rfl, rfl⟩
theorem figP_len : ∀ (f n : Nat), (figP f n).length ≤ f + 1
  | 0, n => by simp [figP]
  | f + 1, n => by
    have := figP_len f (n / 10)
    unfold figP
    split
    · simp
    · rw [List.length_append]; simp; omega
set_option maxHeartbeats 400000 in
theorem fig_walk : ∀ (f n : Nat) (w : World), f ≤ 8 → n < 10 ^ (f + 1) → Calls Tryz.prog 15 #[.int .i64 (n : Int)] w fun e w' => e = .returned (.string ⟨(figP f n).toArray⟩) ∧ w' = w
  | 0, n, w, _, h => fig_one n w (by omega)
  | f + 1, n, w, hf, h => by
    by_cases h10 : n < 10
    · have := fig_one n w h10
      unfold figP
      rw [if_pos h10]
      exact this
    · have e : figP (f + 1) n = figP f (n / 10) ++ [digS (n % 10)] := by rw [figP, if_neg h10]
      have H1 := Lib.hid (fig_walk f (n / 10) w (by omega) (by rw [Nat.pow_succ] at h; omega))
      have H2 := Lib.hid (fig_one (n % 10) w (Nat.mod_lt _ (by omega)))
      have hl := figP_len f (n / 10)
      rw [e]
      obtain ⟨A, hA⟩ : ∃ A, A = figP f (n / 10) := ⟨_, rfl⟩
      rw [← hA] at H1 hl ⊢
      have hn10 : ((n : Int) < 10) = False := eq_false (by omega)
      have hq : (n : Int).tdiv 10 = ((n / 10 : Nat) : Int) := by rw [Int.tdiv_eq_ediv_of_nonneg (by omega)]; omega
      have hr : (n : Int).tmod 10 = ((n % 10 : Nat) : Int) := by rw [Int.tmod_eq_emod_of_nonneg (by omega)]; omega
      obtain ⟨q, hq2⟩ : ∃ q, q = n / 10 := ⟨_, rfl⟩
      obtain ⟨r, hr2⟩ : ∃ r, r = n % 10 := ⟨_, rfl⟩
      rw [← hq2] at hq H1
      rw [← hr2] at hr H2
      rw [← hr2]
      have ha := str_one A (digS r)
      have hk : (9223372036854775807 < A.length + 1) = False := eq_false (by omega)
      have hwq : wrap64 (q : Int) = (q : Int) := by
        have : q < 10 ^ 9 := by
          have h1 : 10 ^ (f + 1) ≤ 10 ^ 9 := Nat.pow_le_pow_right (by omega) (by omega)
          have h2 : q < 10 ^ (f + 1) := by rw [hq2]; rw [Nat.pow_succ] at h; omega
          omega
        unfold wrap64; omega
      clear h h10 e hA hf hl hq2 hr2
      go_enter Tryz.func15, Tryz.ntmps15
      go_wp2_with fail
      refine H1.out.mono ?_
      rintro e w1 ⟨rfl, hw⟩
      have hw := hw.symm
      subst hw
      go_wp2_with fail
      refine H2.out.mono ?_
      rintro e w1 ⟨rfl, hw⟩
      have hw := hw.symm
      subst hw
      go_wp2_with fail
      go_ret
      exact ⟨congrArg (fun s => Ending.returned (Value.string s)) ha, rfl⟩

/-- An address as known_hosts has it. -/
def normP (h p : List UInt8) : List UInt8 := if p = [50, 50] then h else 91 :: h ++ 93 :: 58 :: p
theorem norm_cat (h p : List UInt8) : (⟨#[91]⟩ : ByteArray) ++ ⟨h.toArray⟩ ++ ⟨#[93, 58]⟩ ++ ⟨p.toArray⟩ = ⟨(91 :: h ++ 93 :: 58 :: p).toArray⟩ := by
  have h1 := str_app [91] h
  have h2 := str_app ([91] ++ h) [93, 58]
  have h3 := str_app ([91] ++ h ++ [93, 58]) p
  rw [show (⟨#[91]⟩ : ByteArray) = ⟨([91] : List UInt8).toArray⟩ from rfl, show (⟨#[93, 58]⟩ : ByteArray) = ⟨([93, 58] : List UInt8).toArray⟩ from rfl, h1, h2, h3]
  simp
set_option maxHeartbeats 400000 in
theorem normal_walk (h p : List UInt8) (w : World) (hl : h.length ≤ 100000) (hpl : p.length ≤ 100000) : Calls Tryz.prog 16 #[.string ⟨h.toArray⟩, .string ⟨p.toArray⟩] w fun e w' => e = .returned (.string ⟨(normP h p).toArray⟩) ∧ w' = w := by
  by_cases h22 : p = [50, 50]
  · subst h22
    have e : normP h [50, 50] = h := if_pos rfl
    rw [e]
    go_enter Tryz.func16, Tryz.ntmps16
    go_wp2_with fail
    go_ret
    exact ⟨rfl, rfl⟩
  · have e : normP h p = 91 :: h ++ 93 :: 58 :: p := if_neg h22
    rw [e]
    have hc := norm_cat h p
    have hp3 : (p == [50, 50]) = false := by rw [beq_eq_false_iff_ne]; exact h22
    have z1 := size_list h
    have z2 := size_list p
    have k1 : (9223372036854775807 < 1 + h.length) = False := eq_false (by omega)
    have k2 : (9223372036854775807 < 1 + h.length + 2) = False := eq_false (by omega)
    have k3 : (9223372036854775807 < 1 + h.length + 2 + p.length) = False := eq_false (by omega)
    obtain ⟨R, hR⟩ : ∃ R, R = 91 :: h ++ 93 :: 58 :: p := ⟨_, rfl⟩
    rw [← hR] at hc ⊢
    have HC := Lib.hid hc
    clear e hc hR h22
    go_enter Tryz.func16, Tryz.ntmps16
    go_wp2_with fail
    go_ret
    exact ⟨congrArg (fun s => Ending.returned (Value.string s)) HC.out, rfl⟩
set_option maxHeartbeats 400000 in
theorem norm_ok (X h p : List UInt8) (w : World) (hl : h.length ≤ 100000) (hpl : p.length ≤ 100000)
    (hs : Calls Tryz.prog 64 #[.string ⟨X.toArray⟩] w fun e w' => e = .returned (.tuple #[.string ⟨h.toArray⟩, .string ⟨p.toArray⟩, .nilIface]) ∧ w' = w)
    (hp : Calls Tryz.prog 65 #[.string ⟨h.toArray⟩, .string ⟨#[91]⟩] w fun e w' => e = .returned (.bool false) ∧ w' = w) :
    Calls Tryz.prog 40 #[.string ⟨X.toArray⟩] w fun e w' => e = .returned (.string ⟨(normP h p).toArray⟩) ∧ w' = w := by
  have HS := Lib.hid hs
  have HP := Lib.hid hp
  clear hs hp
  by_cases h22 : p = [50, 50]
  · subst h22
    have e : normP h [50, 50] = h := if_pos rfl
    rw [e]
    go_enter Tryz.func40, Tryz.ntmps40
    go_wp2_with (first
      | (go_at_call 64; refine HS.out.mono ?_; rintro e w1 ⟨rfl, hw⟩; (have hw := hw.symm); subst hw)
      | (go_at_call 65; refine HP.out.mono ?_; rintro e w1 ⟨rfl, hw⟩; (have hw := hw.symm); subst hw))
    go_ret
    exact ⟨rfl, rfl⟩
  · have e : normP h p = 91 :: h ++ 93 :: 58 :: p := if_neg h22
    rw [e]
    have hc := norm_cat h p
    have hp3 : (p == [50, 50]) = false := by rw [beq_eq_false_iff_ne]; exact h22
    have z1 := size_list h
    have z2 := size_list p
    have k1 : (9223372036854775807 < 1 + h.length) = False := eq_false (by omega)
    have k2 : (9223372036854775807 < 1 + h.length + 2) = False := eq_false (by omega)
    have k3 : (9223372036854775807 < 1 + h.length + 2 + p.length) = False := eq_false (by omega)
    obtain ⟨R, hR⟩ : ∃ R, R = 91 :: h ++ 93 :: 58 :: p := ⟨_, rfl⟩
    rw [← hR] at hc ⊢
    have HC := Lib.hid hc
    clear e hc hR h22
    go_enter Tryz.func40, Tryz.ntmps40
    go_wp2_with (first
      | (go_at_call 64; refine HS.out.mono ?_; rintro e w1 ⟨rfl, hw⟩; (have hw := hw.symm); subst hw)
      | (go_at_call 65; refine HP.out.mono ?_; rintro e w1 ⟨rfl, hw⟩; (have hw := hw.symm); subst hw))
    go_ret
    exact ⟨congrArg (fun s => Ending.returned (Value.string s)) HC.out, rfl⟩
set_option maxHeartbeats 400000 in
theorem norm_err (X : List UInt8) (w : World)
    (hs : Calls Tryz.prog 64 #[.string ⟨X.toArray⟩] w fun e w' => (∃ T v, e = .returned (.tuple #[.string ⟨#[]⟩, .string ⟨#[]⟩, .iface T v])) ∧ Below w.heap.size w w')
    (hp : ∀ W, Calls Tryz.prog 65 #[.string ⟨X.toArray⟩, .string ⟨#[91]⟩] W fun e w' => e = .returned (.bool false) ∧ w' = W) :
    Calls Tryz.prog 40 #[.string ⟨X.toArray⟩] w fun e w' => e = .returned (.string ⟨X.toArray⟩) ∧ Below w.heap.size w w' := by
  have HS := Lib.hid hs
  have HP := Lib.hid hp
  clear hs hp
  go_enter Tryz.func40, Tryz.ntmps40
  go_wp2_with (first
    | (go_at_call 64; refine HS.out.mono ?_; rintro e w1 ⟨⟨T, v, rfl⟩, hb⟩; have HB := Lib.hid hb; clear hb)
    | (go_at_call 65; refine (HP.out _).mono ?_; rintro e w1 ⟨rfl, hw⟩; (have hw := hw.symm); subst hw))
  go_ret
  exact ⟨rfl, HB.out⟩

/-! ### impl.Normalized -/
set_option maxHeartbeats 400000 in
theorem nd1 (X R : List UInt8) (w : World) (gi go : Nat) (hn : Calls Tryz.prog 40 #[.string ⟨X.toArray⟩] w fun e w' => e = .returned (.string ⟨R.toArray⟩) ∧ Below w.heap.size w w')
    (hi : w.cell? ⟨gi, 0, none⟩ = some (.string ⟨X.toArray⟩)) (ho : Blk w go 9 #[.string ⟨#[]⟩]) :
    Calls Tryz.prog 39 #[.pointer (some ⟨gi, 0, none⟩), .pointer (some ⟨go, 0, none⟩)] w fun e w' => e = .returned (.tuple #[]) ∧ Blk w' go 9 #[.string ⟨R.toArray⟩] ∧ Keep (but go) w w' := by
  have HN := Lib.hid hn
  have HO := Lib.hid ho
  clear hn ho
  go_enter Tryz.func39, Tryz.ntmps39
  go_wp2_with (go_at_call 40; refine HN.out.mono ?_; rintro e w1 ⟨rfl, hb⟩; have HB := Lib.hid hb; have HO1 := Lib.hid (show Blk w1 go 9 #[.string ⟨#[]⟩] from (hb.block go HO.out.lt).trans HO.out); have k0 : w1.cell? ⟨go, 0, none⟩ = some (.string ⟨#[]⟩) := HO1.out.cell 0; have f0 := HO1.out.frozen 0; clear hb)
  go_end0
  exact ⟨rfl, HO1.out.set_ 0 _, (Keep.of_below HB.out).setCell (fun _ hn => hn rfl) _⟩
set_option maxHeartbeats 800000 in
theorem normalized_walk (X R : List UInt8) (w : World) (hn : ∀ W : World, Calls Tryz.prog 40 #[.string ⟨X.toArray⟩] W fun e w' => e = .returned (.string ⟨R.toArray⟩) ∧ Below W.heap.size W w') :
    Calls Tryz.prog 17 #[.string ⟨X.toArray⟩] w fun e w' => e = .returned (.tuple #[.string ⟨R.toArray⟩, .bool true]) ∧ Below w.heap.size w w' := by
  have hmf : ∀ (fn : Fn) (first cap : Array Value) (w : World), (Instr.makeFunc fn first cap).run Tryz.prog w = .ok (.func fn first cap) w := fun _ _ _ _ => rfl
  have HN := Lib.hid hn
  clear hn
  go_enter Tryz.func17, Tryz.ntmps17
  go_upto_region 1 with fail
  obtain ⟨W1, hW1⟩ : ∃ W, W = (w.alloc (.cells #[.string ⟨X.toArray⟩] 9)).alloc (.cells #[.string ⟨#[]⟩] 9) := ⟨_, rfl⟩
  rw [← hW1]
  have hz : W1.heap.size = w.heap.size + 2 := by rw [hW1]; simp
  have hb1 : Below w.heap.size w W1 := by rw [hW1]; exact ((Below.refl _ _).alloc (Nat.le_refl _) _).alloc (by simp) _
  have hbi : Blk W1 w.heap.size 9 #[.string ⟨X.toArray⟩] := by rw [hW1]; exact (Blk.new w _ _).alloc _
  have hbo : Blk W1 (w.heap.size + 1) 9 #[.string ⟨#[]⟩] := by
    rw [hW1]
    have := Blk.new (w.alloc (.cells #[.string ⟨X.toArray⟩] 9)) 9 #[.string ⟨#[]⟩]
    simpa using this
  clear hW1
  have hbn : Below W1.heap.size W1 (W1.alloc (.cells #[.bool false] 4)) := (Below.refl _ _).alloc (Nat.le_refl _) _
  have hcl := nd1 X R (W1.alloc (.cells #[.bool false] 4)) w.heap.size (w.heap.size + 1) (HN.out _) ((hbi.alloc _).cell 0) (hbo.alloc _)
  have HC := Lib.hid (calm_walk 39 #[.pointer (some ⟨w.heap.size, 0, none⟩), .pointer (some ⟨w.heap.size + 1, 0, none⟩)] W1 (fun W => Blk W (w.heap.size + 1) 9 #[.string ⟨R.toArray⟩] ∧ Below w.heap.size w W) (fun W => by kernel_rfl)
    (hcl.mono fun e w' ⟨h0, h1, h3⟩ => by
      have hnb := (Blk.new W1 4 #[.bool false]).keep h3 (show W1.heap.size ≠ _ by omega)
      refine ⟨h0, hnb.cell 0, hnb.frozen 0, h1, ?_⟩
      have hs : w.heap.size ≤ w'.heap.size := Nat.le_trans (Nat.le_trans hb1.size hbn.size) h3.size
      exact ⟨h3.os.trans hb1.os, h3.tape.trans hb1.tape, h3.output.trans hb1.output, hs, fun k hk => (h3.block k (Nat.lt_of_lt_of_le hk (Nat.le_trans hb1.size hbn.size)) (show k ≠ _ by omega)).trans ((hbn.block k (Nat.lt_of_lt_of_le hk hb1.size)).trans (hb1.block k hk))⟩))
  have HZ := Lib.hid hz
  clear hcl hbn hbi hbo hb1 hz
  go_upto_region 2 with (go_at_call 35; refine HC.out.mono ?_; rintro e w2 ⟨rfl, w3, ⟨h5, h6⟩, hw2⟩; have H5 := Lib.hid h5; have H6 := Lib.hid h6; have HW2 := Lib.hid hw2; clear h5 h6 hw2)
  have HL2 := Lib.hid (show Blk w2 (w.heap.size + 1) 9 #[.string ⟨R.toArray⟩] by rw [HW2.out]; exact H5.out.far (by have := HZ.out; show w.heap.size + 1 ≠ W1.heap.size; omega) _)
  have HB2 := Lib.hid (show Below w.heap.size w w2 by rw [HW2.out]; exact H6.out.setCell (by have := HZ.out; show w.heap.size ≤ W1.heap.size; omega) _)
  have k0 : w2.cell? ⟨w.heap.size + 1, 0, none⟩ = some (.string ⟨R.toArray⟩) := HL2.out.cell 0
  have f0 := HL2.out.frozen 0
  go_wp2_with fail
  have hs6 : Blk (w2.setCell ⟨w.heap.size + 1, 0, none⟩ (.string ⟨R.toArray⟩)) (w.heap.size + 1) 9 #[.string ⟨R.toArray⟩] := HL2.out.set_ 0 (.string ⟨R.toArray⟩)
  have hb9 := HB2.out.setCell (p := ⟨w.heap.size + 1, 0, none⟩) (by show _ ≤ w.heap.size + 1; omega) (.string ⟨R.toArray⟩)
  clear k0 f0
  obtain ⟨W9, hW9⟩ : ∃ W, W = w2.setCell ⟨w.heap.size + 1, 0, none⟩ (.string ⟨R.toArray⟩) := ⟨_, rfl⟩
  rw [← hW9] at hs6 hb9 ⊢
  have k0 : W9.cell? ⟨w.heap.size + 1, 0, none⟩ = some (.string ⟨R.toArray⟩) := hs6.cell 0
  exact bodyPost_ret (v := .tuple #[.string ⟨R.toArray⟩, .bool true]) (by simp [results, Tryz.results17, go_sem, k0]) rfl ⟨rfl, hb9⟩

end Go.Proofs.YtoeepfmmceilaaaGreatDoor
