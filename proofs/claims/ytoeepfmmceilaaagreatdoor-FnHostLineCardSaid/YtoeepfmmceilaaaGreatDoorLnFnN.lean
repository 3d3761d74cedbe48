/- laws.named, laws.figures, spec.Normal; knownhosts.Normalize, impl.Normalized. -/
import Derived.Test.YtoeepfmmceilaaaGreatDoorLnSplit
import Derived.Test.YtoeepfmmceilaaaGreatDoorLnCalm
import Derived.Test.YtoeepfmmceilaaaGreatDoorLnB64
import Derived.Test.YtoeepfmmceilaaaGreatDoorLnStr
import Derived.Test.YtoeepfmmceilaaaGreatDoorLnLines
set_option linter.unusedVariables false
set_option linter.unusedSimpArgs false
namespace Go.Proofs.YtoeepfmmceilaaaGreatDoor
open Go.RowKit

def digS (n : Nat) : UInt8 := UInt8.ofNat (48 + n)
/-- The digits of a number below 10^(f + 1). -/
def figP : Nat → Nat → List UInt8
  | 0, n => [digS n]
  | f + 1, n => if n < 10 then [digS n] else figP f (n / 10) ++ [digS (n % 10)]
def digitsS : List UInt8 := [48, 49, 50, 51, 52, 53, 54, 55, 56, 57]
theorem digit_at : ∀ d : Fin 10, (digitsS.take (d.val + 1)).drop d.val = [digS d.val] := by decide
set_option maxHeartbeats 400000 in
theorem fig_one (n : Nat) (w : World) (h : n < 10) : Calls Tryz.prog 15 #[.int .i64 (n : Int)] w fun e w' => e = .returned (.string ⟨#[digS n]⟩) ∧ w' = w := by
  have hs : ∀ W : World, (Instr.slice 9 (.string ⟨#[48, 49, 50, 51, 52, 53, 54, 55, 56, 57]⟩) (some (.int .i64 (n : Int))) (some (.int .i64 ((n : Int) + 1))) none).run Tryz.prog W = .ok (.string ⟨#[digS n]⟩) W := fun W => by
    have := slS_mid digitsS n (n + 1) (by omega) (by show n + 1 ≤ 10; omega) W
    rw [digit_at ⟨n, h⟩] at this
    exact this
  have h10 : ((n : Int) < 10) = True := eq_true (by omega)
  have hw : wrap64 ((n : Int) + 1) = (n : Int) + 1 := by unfold wrap64; omega
  clear h
  go_enter Tryz.func15, Tryz.ntmps15
  go_wp2_with fail
  go_ret
  exact ⟨rfl, rfl⟩
theorem figP_len : ∀ (f n : Nat), (figP f n).length ≤ f + 1
  | 0, n => by simp [figP]
  | f + 1, n => by
    have := figP_len f (n / 10)
    unfold figP
    split
    · simp
    · rw [List.length_append]; simp; omega
set_option maxHeartbeats 400000 in
theorem fig_walk : ∀ (f n : Nat) (w : World), f ≤ 8 → n < 10 ^ (f + 1) → Calls Tryz.prog 15 #[.int .i64 (n : Int)] w fun e w' => e = .returned (.string ⟨(figP f n).toArray⟩) ∧ w' = w
  | 0, n, w, _, h => fig_one n w (by omega)
  | f + 1, n, w, hf, h => by
    by_cases h10 : n < 10
    · have := fig_one n w h10
      unfold figP
      rw [if_pos h10]
      exact this
    · have e : figP (f + 1) n = figP f (n / 10) ++ [digS (n % 10)] := by rw [figP, if_neg h10]
      have H1 := Lib.hid (fig_walk f (n / 10) w (by omega) (by rw [Nat.pow_succ] at h; omega))
      have H2 := Lib.hid (fig_one (n % 10) w (Nat.mod_lt _ (by omega)))
      have hl := figP_len f (n / 10)
      rw [e]
      obtain ⟨A, hA⟩ : ∃ A, A = figP f (n / 10) := ⟨_, rfl⟩
      rw [← hA] at H1 hl ⊢
      have hn10 : ((n : Int) < 10) = False := eq_false (by omega)
      have hq : (n : Int).tdiv 10 = ((n / 10 : Nat) : Int) := by rw [Int.tdiv_eq_ediv_of_nonneg (by omega)]; omega
      have hr : (n : Int).tmod 10 = ((n % 10 : Nat) : Int) := by rw [Int.tmod_eq_emod_of_nonneg (by omega)]; omega
      obtain ⟨q, hq2⟩ : ∃ q, q = n / 10 := ⟨_, rfl⟩
      obtain ⟨r, hr2⟩ : ∃ r, r = n % 10 := ⟨_, rfl⟩
      rw [← hq2] at hq H1
      rw [← hr2] at hr H2
      rw [← hr2]
      have ha := str_one A (digS r)
      have hk : (9223372036854775807 < A.length + 1) = False := eq_false (by omega)
      have hwq : wrap64 (q : Int) = (q : Int) := by
        have : q < 10 ^ 9 := by
          have h1 : 10 ^ (f + 1) ≤ 10 ^ 9 := Nat.pow_le_pow_right (by omega) (by omega)
          have h2 : q < 10 ^ (f + 1) := by rw [hq2]; rw [Nat.pow_succ] at h; omega
          omega
        unfold wrap64; omega
      clear h h10 e hA hf hl hq2 hr2
      go_enter Tryz.func15, Tryz.ntmps15
      go_wp2_with fail
      refine H1.out.mono ?_
      rintro e w1 ⟨rfl, hw⟩
      have hw := hw.symm
      subst hw
      go_wp2_with fail
      refine H2.out.mono ?_
      rintro e w1 ⟨rfl, hw⟩
      have hw := hw.symm
      subst hw
      go_wp2_with fail
      go_ret
      exact ⟨congrArg (fun s => Ending.returned (Value.string s)) ha, rfl⟩

/-- An address as known_hosts has it. -/
def normP (h p : List UInt8) : List UInt8 := if p = [50, 50] then h else 91 :: h ++ 93 :: 58 :: p
theorem norm_cat (h p : List UInt8) : (⟨#[91]⟩ : ByteArray) ++ ⟨h.toArray⟩ ++ ⟨#[93, 58]⟩ ++ ⟨p.toArray⟩ = ⟨(91 :: h ++ 93 :: 58 :: p).toArray⟩ := by
  have h1 := str_app [91] h
  have h2 := str_app ([91] ++ h) [93, 58]
  have h3 := str_app ([91] ++ h ++ [93, 58]) p
  rw [show (⟨#[91]⟩ : ByteArray) = ⟨([91] : List UInt8).toArray⟩ from rfl, show (⟨#[93, 58]⟩ : ByteArray) = ⟨([93, 58] : List UInt8).toArray⟩ from rfl, h1, h2, h3]
  simp
set_option maxHeartbeats 400000 in
theorem normal_walk (h p : List UInt8) (w : World) (hl : h.length ≤ 100000) (hpl : p.length ≤ 100000) : Calls Tryz.prog 16 #[.string ⟨h.toArray⟩, .string ⟨p.toArray⟩] w fun e w' => e = .returned (.string ⟨(normP h p).toArray⟩) ∧ w' = w := by
  by_cases h22 : p = [50, 50]
  · subst h22
    have e : normP h [50, 50] = h := if_pos rfl
    rw [e]
    go_enter Tryz.func16, Tryz.ntmps16
    go_wp2_with fail
    go_ret
    exact ⟨rfl, rfl⟩
  · have e : normP h p = 91 :: h ++ 93 :: 58 :: p := if_neg h22
    rw [e]
    have hc := norm_cat h p
    have hp3 : (p == [50, 50]) = false := by rw [beq_eq_false_iff_ne]; exact h22
    have z1 := size_list h
    have z2 := size_list p
    have k1 : (9223372036854775807 < 1 + h.length) = False := eq_false (by omega)
    have k2 : (9223372036854775807 < 1 + h.length + 2) = False := eq_false (by omega)
    have k3 : (9223372036854775807 < 1 + h.length + 2 + p.length) = False := eq_false (by omega)
    obtain ⟨R, hR⟩ : ∃ R, R = 91 :: h ++ 93 :: 58 :: p := ⟨_, rfl⟩
    rw [← hR] at hc ⊢
    have HC := Lib.hid hc
    clear e hc hR h22
    go_enter Tryz.func16, Tryz.ntmps16
    go_wp2_with fail
    go_ret
    exact ⟨congrArg (fun s => Ending.returned (Value.string s)) HC.out, rfl⟩
set_option maxHeartbeats 400000 in
theorem norm_ok (X h p : List UInt8) (w : World) (hl : h.length ≤ 100000) (hpl : p.length ≤ 100000)
    (hs : Calls Tryz.prog 64 #[.string ⟨X.toArray⟩] w fun e w' => e = .returned (.tuple #[.string ⟨h.toArray⟩, .string ⟨p.toArray⟩, .nilIface]) ∧ w' = w)
    (hp : Calls Tryz.prog 65 #[.string ⟨h.toArray⟩, .string ⟨#[91]⟩] w fun e w' => e = .returned (.bool false) ∧ w' = w) :
    Calls Tryz.prog 40 #[.string ⟨X.toArray⟩] w fun e w' => e = .returned (.string ⟨(normP h p).toArray⟩) ∧ w' = w := by
  have HS := Lib.hid hs
  have HP := Lib.hid hp
  clear hs hp
  by_cases h22 : p = [50, 50]
  · subst h22
    have e : normP h [50, 50] = h := if_pos rfl
    rw [e]
    go_enter Tryz.func40, Tryz.ntmps40
    go_wp2_with (first
      | (go_at_call 64; refine HS.out.mono ?_; rintro e w1 ⟨rfl, hw⟩; (have hw := hw.symm); subst hw)
      | (go_at_call 65; refine HP.out.mono ?_; rintro e w1 ⟨rfl, hw⟩; (have hw := hw.symm); subst hw))
    go_ret
    exact ⟨rfl, rfl⟩
  · have e : normP h p = 91 :: h ++ 93 :: 58 :: p := if_neg h22
    rw [e]
    have hc := norm_cat h p
    have hp3 : (p == [50, 50]) = false := by rw [beq_eq_false_iff_ne]; exact h22
    have z1 := size_list h
    have z2 := size_list p
    have k1 : (9223372036854775807 < 1 + h.length) = False := eq_false (by omega)
    have k2 : (9223372036854775807 < 1 + h.length + 2) = False := eq_false (by omega)
    have k3 : (9223372036854775807 < 1 + h.length + 2 + p.length) = False := eq_false (by omega)
    obtain ⟨R, hR⟩ : ∃ R, R = 91 :: h ++ 93 :: 58 :: p := ⟨_, rfl⟩
    rw [← hR] at hc ⊢
    have HC := Lib.hid hc
    clear e hc hR h22
    go_enter Tryz.func40, Tryz.ntmps40
    go_wp2_with (first
      | (go_at_call 64; refine HS.out.mono ?_; rintro e w1 ⟨rfl, hw⟩; (have hw := hw.symm); subst hw)
      | (go_at_call 65; refine HP.out.mono ?_; rintro e w1 ⟨rfl, hw⟩; (have hw := hw.symm); subst hw))
    go_ret
    exact ⟨congrArg (fun s => Ending.returned (Value.string s)) HC.out, rfl⟩
set_option maxHeartbeats 400000 in
theorem norm_err (X : List UInt8) (w : World)
    (hs : Calls Tryz.prog 64 #[.string ⟨X.toArray⟩] w fun e w' => (∃ T v, e = .returned (.tuple #[.string ⟨#[]⟩, .string ⟨#[]⟩, .iface T v])) ∧ Below w.heap.size w w')
    (hp : ∀ W, Calls Tryz.prog 65 #[.string ⟨X.toArray⟩, .string ⟨#[91]⟩] W fun e w' => e = .returned (.bool false) ∧ w' = W) :
    Calls Tryz.prog 40 #[.string ⟨X.toArray⟩] w fun e w' => e = .returned (.string ⟨X.toArray⟩) ∧ Below w.heap.size w w' := by
  have HS := Lib.hid hs
  have HP := Lib.hid hp
  clear hs hp
  go_enter Tryz.func40, Tryz.ntmps40
  go_wp2_with (first
    | (go_at_call 64; refine HS.out.mono ?_; rintro e w1 ⟨⟨T, v, rfl⟩, hb⟩; have HB := Lib.hid hb; clear hb)
    | (go_at_call 65; refine (HP.out _).mono ?_; rintro e w1 ⟨rfl, hw⟩; (have hw := hw.symm); subst hw))
  go_ret
  exact ⟨rfl, HB.out⟩

/-! ### impl.Normalized -/
set_option maxHeartbeats 400000 in
theorem nd1 (X R : List UInt8) (w : World) (gi go : Nat) (hn : Calls Tryz.prog 40 #[.string ⟨X.toArray⟩] w fun e w' => e = .returned (.string ⟨R.toArray⟩) ∧ Below w.heap.size w w')
    (hi : w.cell? ⟨gi, 0, none⟩ = some (.string ⟨X.toArray⟩)) (ho : Blk w go 9 #[.string ⟨#[]⟩]) :
    Calls Tryz.prog 39 #[.pointer (some ⟨gi, 0, none⟩), .pointer (some ⟨go, 0, none⟩)] w fun e w' => e = .returned (.tuple #[]) ∧ Blk w' go 9 #[.string ⟨R.toArray⟩] ∧ Keep (but go) w w' := by
  have HN := Lib.hid hn
  have HO := Lib.hid ho
  clear hn ho
  go_enter Tryz.func39, Tryz.ntmps39
  go_wp2_with (go_at_call 40; refine HN.out.mono ?_; rintro e w1 ⟨rfl, hb⟩; have HB := Lib.hid hb; have HO1 := Lib.hid (show Blk w1 go 9 #[.string ⟨#[]⟩] from (hb.block go HO.out.lt).trans HO.out); have k0 : w1.cell? ⟨go, 0, none⟩ = some (.string ⟨#[]⟩) := HO1.out.cell 0; have f0 := HO1.out.frozen 0; clear hb)
  go_end0
  exact ⟨rfl, HO1.out.set_ 0 _, (Keep.of_below HB.out).setCell (fun _ hn => hn rfl) _⟩
set_option maxHeartbeats 800000 in
theorem normalized_walk (X R : List UInt8) (w : World) (hn : ∀ W : World, Calls Tryz.prog 40 #[.string ⟨X.toArray⟩] W fun e w' => e = .returned (.string ⟨R.toArray⟩) ∧ Below W.heap.size W w') :
    Calls Tryz.prog 17 #[.string ⟨X.toArray⟩] w fun e w' => e = .returned (.tuple #[.string ⟨R.toArray⟩, .bool true]) ∧ Below w.heap.size w w' := by
  have hmf : ∀ (fn : Fn) (first cap : Array Value) (w : World), (Instr.makeFunc fn first cap).run Tryz.prog w = .ok (.func fn first cap) w := fun _ _ _ _ => rfl
  have HN := Lib.hid hn
  clear hn
  go_enter Tryz.func17, Tryz.ntmps17
  go_upto_region 1 with fail
  obtain ⟨W1, hW1⟩ : ∃ W, W = (w.alloc (.cells #[.string ⟨X.toArray⟩] 9)).alloc (.cells #[.string ⟨#[]⟩] 9) := ⟨_, rfl⟩
  rw [← hW1]
  have hz : W1.heap.size = w.heap.size + 2 := by rw [hW1]; simp
  have hb1 : Below w.heap.size w W1 := by rw [hW1]; exact ((Below.refl _ _).alloc (Nat.le_refl _) _).alloc (by simp) _
  have hbi : Blk W1 w.heap.size 9 #[.string ⟨X.toArray⟩] := by rw [hW1]; exact (Blk.new w _ _).alloc _
  have hbo : Blk W1 (w.heap.size + 1) 9 #[.string ⟨#[]⟩] := by
    rw [hW1]
    have := Blk.new (w.alloc (.cells #[.string ⟨X.toArray⟩] 9)) 9 #[.string ⟨#[]⟩]
    simpa using this
  clear hW1
  have hbn : Below W1.heap.size W1 (W1.alloc (.cells #[.bool false] 4)) := (Below.refl _ _).alloc (Nat.le_refl _) _
  have hcl := nd1 X R (W1.alloc (.cells #[.bool false] 4)) w.heap.size (w.heap.size + 1) (HN.out _) ((hbi.alloc _).cell 0) (hbo.alloc _)
  have HC := Lib.hid (calm_walk 39 #[.pointer (some ⟨w.heap.size, 0, none⟩), .pointer (some ⟨w.heap.size + 1, 0, none⟩)] W1 (fun W => Blk W (w.heap.size + 1) 9 #[.string ⟨R.toArray⟩] ∧ Below w.heap.size w W) (fun W => by kernel_rfl)
    (hcl.mono fun e w' ⟨h0, h1, h3⟩ => by
      have hnb := (Blk.new W1 4 #[.bool false]).keep h3 (show W1.heap.size ≠ _ by omega)
      refine ⟨h0, hnb.cell 0, hnb.frozen 0, h1, ?_⟩
      have hs : w.heap.size ≤ w'.heap.size := Nat.le_trans (Nat.le_trans hb1.size hbn.size) h3.size
      exact ⟨h3.os.trans hb1.os, h3.tape.trans hb1.tape, h3.output.trans hb1.output, hs, fun k hk => (h3.block k (Nat.lt_of_lt_of_le hk (Nat.le_trans hb1.size hbn.size)) (show k ≠ _ by omega)).trans ((hbn.block k (Nat.lt_of_lt_of_le hk hb1.size)).trans (hb1.block k hk))⟩))
  have HZ := Lib.hid hz
  clear hcl hbn hbi hbo hb1 hz
  go_upto_region 2 with (go_at_call 35; refine HC.out.mono ?_; rintro e w2 ⟨rfl, w3, ⟨h5, h6⟩, hw2⟩; have H5 := Lib.hid h5; have H6 := Lib.hid h6; have HW2 := Lib.hid hw2; clear h5 h6 hw2)
  have HL2 := Lib.hid (show Blk w2 (w.heap.size + 1) 9 #[.string ⟨R.toArray⟩] by rw [HW2.out]; exact H5.out.far (by have := HZ.out; show w.heap.size + 1 ≠ W1.heap.size; omega) _)
  have HB2 := Lib.hid (show Below w.heap.size w w2 by rw [HW2.out]; exact H6.out.setCell (by have := HZ.out; show w.heap.size ≤ W1.heap.size; omega) _)
  have k0 : w2.cell? ⟨w.heap.size + 1, 0, none⟩ = some (.string ⟨R.toArray⟩) := HL2.out.cell 0
  have f0 := HL2.out.frozen 0
  go_wp2_with fail
  have hs6 : Blk (w2.setCell ⟨w.heap.size + 1, 0, none⟩ (.string ⟨R.toArray⟩)) (w.heap.size + 1) 9 #[.string ⟨R.toArray⟩] := HL2.out.set_ 0 (.string ⟨R.toArray⟩)
  have hb9 := HB2.out.setCell (p := ⟨w.heap.size + 1, 0, none⟩) (by show _ ≤ w.heap.size + 1; omega) (.string ⟨R.toArray⟩)
  clear k0 f0
  obtain ⟨W9, hW9⟩ : ∃ W, W = w2.setCell ⟨w.heap.size + 1, 0, none⟩ (.string ⟨R.toArray⟩) := ⟨_, rfl⟩
  rw [← hW9] at hs6 hb9 ⊢
  have k0 : W9.cell? ⟨w.heap.size + 1, 0, none⟩ = some (.string ⟨R.toArray⟩) := hs6.cell 0
  exact bodyPost_ret (v := .tuple #[.string ⟨R.toArray⟩, .bool true]) (by simp [results, Tryz.results17, go_sem, k0]) rfl ⟨rfl, hb9⟩

end Go.Proofs.YtoeepfmmceilaaaGreatDoor
/- laws.named. -/
set_option linter.unusedVariables false
set_option linter.unusedSimpArgs false
namespace Go.Proofs.YtoeepfmmceilaaaGreatDoor
open Go.RowKit

/-- A sign of a host: a small letter, a digit, a point, a hyphen. -/
def okS (x : UInt8) : Bool := (decide (97 ≤ x.toNat) && decide (x.toNat ≤ 122)) || (decide (48 ≤ x.toNat) && decide (x.toNat ≤ 57)) || x.toNat == 46 || x.toNat == 45
def namedP (l : List UInt8) : Bool := l.all okS && decide (l ≠ []) && decide (l.length ≤ 60)
theorem named_false {l : List UInt8} {x : UInt8} {k : Nat} (hx : l[k]? = some x) (h : okS x = false) : namedP l = false := by
  have : l.all okS = false := by
    rw [List.all_eq_false]
    exact ⟨x, List.mem_of_getElem? hx, by rw [h]; decide⟩
  unfold namedP
  rw [this]
  rfl
theorem all_take {l : List UInt8} {x : UInt8} {k : Nat} (hx : l[k]? = some x) (h : (l.take k).all okS = true) (h1 : okS x = true) : (l.take (k + 1)).all okS = true := by
  rw [List.take_add_one, hx, List.all_append, h]
  simp [h1]
/-- The seven kinds of a sign. -/
theorem kinds (x : UInt8) : (97 ≤ x.toNat ∧ x.toNat ≤ 122) ∨ (48 ≤ x.toNat ∧ x.toNat ≤ 57) ∨ x.toNat = 46 ∨ x.toNat = 45 ∨ (x.toNat < 48 ∧ x.toNat ≠ 46 ∧ x.toNat ≠ 45) ∨ (57 < x.toNat ∧ x.toNat < 97) ∨ 122 < x.toNat := by omega
set_option maxRecDepth 100000 in
set_option maxHeartbeats 1600000 in
theorem named_walk (l : List UInt8) (w : World) (hl : l.length ≤ 2147483647) : Calls Tryz.prog 14 #[.string ⟨l.toArray⟩] w fun e w' => e = .returned (.bool (namedP l)) ∧ w' = w := by
  have hsz := size_list l
  have HLL := Lib.hid hl
  clear hl
  go_enter Tryz.func14, Tryz.ntmps14
  go_wp2_with fail
  go_loopg [6] (l.length + 1) (fun gk v6 wr => ∃ k : Nat, v6 = .int .i64 (k : Int) ∧ k ≤ l.length ∧ Hid (k + gk = l.length + 1) ∧ Hid ((l.take k).all okS = true) ∧ wr = w)
  case atStart => exact ⟨0, rfl, by omega, by simp [Hid], by simp [Hid], rfl⟩
  case round =>
    obtain ⟨k, rfl, hk, hgk, HA, rfl⟩ := hrel
    by_cases hlt : k < l.length
    · obtain ⟨x, hx⟩ : ∃ x, l[k]? = some x := ⟨_, List.getElem?_eq_getElem hlt⟩
      have hix := get_list l k x hx
      have HX := Lib.hid hx
      have HK1 := Lib.hid (show wrap64 ((k : Int) + 1) = (k : Int) + 1 by have := HLL.out; unfold wrap64; omega)
      clear hx
      go_wp2_with fail
      all_goals first
        | (go_roundg (gk - 1)
           case measure => have := hgk.out; omega
           case rel =>
             have hg := hgk.out
             refine ⟨k + 1, by rw [HK1.out]; rfl, by omega, show _ = _ by omega, all_take HX.out HA.out ?_, rfl⟩
             unfold okS
             simp at *
             omega)
        | (go_ret
           refine ⟨?_, rfl⟩
           rw [named_false HX.out (by unfold okS; simp at *; omega)]
           rfl)
    · have hke : k = l.length := by omega
      subst hke
      have HA2 := Lib.hid (show l.all okS = true by have := HA.out; rwa [List.take_length] at this)
      have hnl : namedP l = (decide (l ≠ []) && decide (l.length ≤ 60)) := by unfold namedP; rw [HA2.out]; rfl
      have HNL := Lib.hid hnl
      clear hnl
      cases l with
      | nil =>
        go_wp2_with fail
        go_ret
        exact ⟨rfl, rfl⟩
      | cons x r =>
        go_wp2_with fail
        go_ret
        refine ⟨?_, rfl⟩
        rw [HNL.out]
        simp
        omega

end Go.Proofs.YtoeepfmmceilaaaGreatDoor
/- laws.FnNormalized: true of each host of at most zzMost bytes. -/
set_option linter.unusedVariables false
set_option linter.unusedSimpArgs false
namespace Go.Proofs.YtoeepfmmceilaaaGreatDoor
open Go.RowKit

theorem okS_not {x : UInt8} (h : okS x = true) : x ≠ 58 ∧ x ≠ 91 ∧ x ≠ 93 := by
  refine ⟨?_, ?_, ?_⟩ <;> (rintro rfl; revert h; decide)
theorem named_all {l : List UInt8} (h : namedP l = true) : l.all okS = true ∧ l ≠ [] ∧ l.length ≤ 60 := by
  unfold namedP at h
  simp only [Bool.and_eq_true, decide_eq_true_eq] at h
  exact ⟨h.1.1, h.1.2, h.2⟩
theorem digS_not : ∀ d : Fin 10, digS d.val ≠ 58 ∧ digS d.val ≠ 91 ∧ digS d.val ≠ 93 := by decide
theorem fig_not : ∀ (f n : Nat), n < 10 ^ (f + 1) → ∀ y ∈ figP f n, y ≠ 58 ∧ y ≠ 91 ∧ y ≠ 93
  | 0, n, h, y, hy => by
    rw [figP, List.mem_singleton] at hy
    subst hy
    exact digS_not ⟨n, by omega⟩
  | f + 1, n, h, y, hy => by
    rw [figP] at hy
    split at hy
    · rw [List.mem_singleton] at hy
      subst hy
      exact digS_not ⟨n, by assumption⟩
    · rcases List.mem_append.1 hy with hy | hy
      · exact fig_not f (n / 10) (by rw [Nat.pow_succ] at h; omega) y hy
      · rw [List.mem_singleton] at hy
        subst hy
        exact digS_not ⟨n % 10, Nat.mod_lt _ (by omega)⟩
/-- The three addresses, and what Normalize makes of them. -/
theorem norm_plain (h p : List UInt8) (hn : namedP h = true) (hp : ∀ y ∈ p, y ≠ 58 ∧ y ≠ 91 ∧ y ≠ 93) (hpl : p.length ≤ 100) (W : World) :
    Calls Tryz.prog 40 #[.string ⟨(h ++ 58 :: p).toArray⟩] W fun e w' => e = .returned (.string ⟨(normP h p).toArray⟩) ∧ Below W.heap.size W w' := by
  obtain ⟨ha, h0, hl⟩ := named_all hn
  have hs := fun y hy => okS_not (List.all_eq_true.1 ha y hy)
  match h, h0 with
  | x :: r, _ =>
    rw [List.length_cons] at hl
    refine (norm_ok (x :: r ++ 58 :: p) (x :: r) p W (by rw [List.length_cons]; omega) (by omega) (split_plain x r p W (by omega) (by omega) (fun y hy => (hs y hy).2) (fun y hy => (hs y hy).1) (fun y hy => (hp y hy).2) (fun y hy => (hp y hy).1)) (no_prefix x r W (hs x (List.mem_cons_self ..)).2.1 (by omega))).mono ?_
    rintro e w' ⟨h1, rfl⟩
    exact ⟨h1, Below.refl _ _⟩
def feS : List UInt8 := [102, 101, 56, 48, 58, 58]
theorem norm_brackF (x : UInt8) (r p : List UInt8) (hr : r.length ≤ 100) (hx : x ≠ 91) (hf : plainS (x :: r)) (hp : ∀ y ∈ p, y ≠ 58 ∧ y ≠ 91 ∧ y ≠ 93) (hpl : p.length ≤ 100) (W : World) :
    Calls Tryz.prog 40 #[.string ⟨(91 :: (x :: r) ++ 93 :: 58 :: p).toArray⟩] W fun e w' => e = .returned (.string ⟨(normP (x :: r) p).toArray⟩) ∧ Below W.heap.size W w' := by
  refine (norm_ok (91 :: (x :: r) ++ 93 :: 58 :: p) (x :: r) p W (by rw [List.length_cons]; omega) (by omega) (split_brack (x :: r) p W (by rw [List.length_cons]; omega) (by omega) hf (fun y hy => (hp y hy).2) (fun y hy => (hp y hy).1)) (no_prefix x r W hx (by omega))).mono ?_
  rintro e w' ⟨h1, rfl⟩
  exact ⟨h1, Below.refl _ _⟩
theorem norm_brack (h p : List UInt8) (hn : namedP h = true) (hp : ∀ y ∈ p, y ≠ 58 ∧ y ≠ 91 ∧ y ≠ 93) (hpl : p.length ≤ 100) (W : World) :
    Calls Tryz.prog 40 #[.string ⟨(91 :: (feS ++ h) ++ 93 :: 58 :: p).toArray⟩] W fun e w' => e = .returned (.string ⟨(normP (feS ++ h) p).toArray⟩) ∧ Below W.heap.size W w' := by
  obtain ⟨ha, h0, hl⟩ := named_all hn
  have hs := fun y hy => okS_not (List.all_eq_true.1 ha y hy)
  have hfp : plainS (feS ++ h) := by
    intro y hy
    rcases List.mem_append.1 hy with hy | hy
    · have : ∀ y ∈ feS, y ≠ 91 ∧ y ≠ 93 := by decide
      exact this y hy
    · exact (hs y hy).2
  have e : feS ++ h = 102 :: ([101, 56, 48, 58, 58] ++ h) := rfl
  rw [e] at hfp ⊢
  exact norm_brackF 102 ([101, 56, 48, 58, 58] ++ h) p (by rw [List.length_append]; show 5 + h.length ≤ 100; omega) (by decide) hfp hp hpl W
theorem norm_bare (h : List UInt8) (hn : namedP h = true) (W : World) :
    Calls Tryz.prog 40 #[.string ⟨h.toArray⟩] W fun e w' => e = .returned (.string ⟨h.toArray⟩) ∧ Below W.heap.size W w' := by
  obtain ⟨ha, h0, hl⟩ := named_all hn
  have hs := fun y hy => okS_not (List.all_eq_true.1 ha y hy)
  match h, h0 with
  | x :: r, _ =>
    rw [List.length_cons] at hl
    exact norm_err (x :: r) W (split_bare (x :: r) W (by rw [List.length_cons]; omega) (fun y hy => (hs y hy).1)) (fun W => no_prefix x r W (hs x (List.mem_cons_self ..)).2.1 (by omega))

set_option maxRecDepth 100000 in
set_option maxHeartbeats 1600000 in
theorem fn_named (h : List UInt8) (q : Nat) (bare colons : Bool) (w : World) (hq : q < 65536) (hn : namedP h = true) :
    Calls Tryz.prog 4 #[.string ⟨h.toArray⟩, .int .u16 (q : Int), .bool bare, .bool colons] w fun e w' => e = .returned (.bool true) ∧ Below w.heap.size w w' := by
  obtain ⟨ha, h0, hl⟩ := named_all hn
  have HNM := Lib.hid (fun W : World => named_walk h W (by omega))
  rw [hn] at HNM
  have HF := Lib.hid (fun W : World => fig_walk 5 q W (by omega) (by omega))
  have hpn := fig_not 5 q (by omega)
  have hpl := figP_len 5 q
  obtain ⟨p, hp⟩ : ∃ p, p = figP 5 q := ⟨_, rfl⟩
  rw [← hp] at HF hpn hpl
  have z1 := size_list h
  have z2 := size_list p
  have cat1 : ∀ H : List UInt8, (⟨H.toArray⟩ : ByteArray) ++ ⟨#[58]⟩ ++ ⟨p.toArray⟩ = ⟨(H ++ 58 :: p).toArray⟩ := fun H => by
    rw [str_one, str_app]
    simp
  have hwq : wrap64 (q : Int) = (q : Int) := by unfold wrap64; omega
  have hgt : ((2147483647 : Int) < (h.length : Int)) = False := eq_false (by omega)
  cases colons
  · have HNW := Lib.hid (fun W : World => normal_walk h p W (by omega) (by omega))
    have c1 := cat1 h
    obtain ⟨X, hX⟩ : ∃ X, X = h ++ 58 :: p := ⟨_, rfl⟩
    rw [← hX] at c1
    have k1 : (9223372036854775807 < h.length + 1) = False := eq_false (by omega)
    have k2 : (9223372036854775807 < h.length + 1 + p.length) = False := eq_false (by omega)
    have HNZ := Lib.hid (fun W : World => normalized_walk X (normP h p) W (fun W => by rw [hX]; exact norm_plain h p hn hpn (by omega) W))
    have HNB := Lib.hid (fun W : World => normalized_walk h h W (fun W => norm_bare h hn W))
    obtain ⟨R, hR⟩ : ∃ R, R = normP h p := ⟨_, rfl⟩
    rw [← hR] at HNW HNZ
    clear cat1 hX hR hp hn ha h0 hl hpn hpl hq
    cases bare
    · go_enter Tryz.func4, Tryz.ntmps4
      go_wp2_with (first
        | (go_at_call 14; refine (HNM.out _).mono ?_; rintro e w1 ⟨rfl, hw⟩; (have hw := hw.symm); subst hw)
        | (go_at_call 15; refine (HF.out _).mono ?_; rintro e w1 ⟨rfl, hw⟩; (have hw := hw.symm); subst hw)
        | (go_at_call 16; refine (HNW.out _).mono ?_; rintro e w1 ⟨rfl, hw⟩; (have hw := hw.symm); subst hw)
        | (go_at_call 17; refine (HNZ.out _).mono ?_; rintro e w1 ⟨rfl, h1⟩; have H1 := Lib.hid h1; clear h1)
        | (go_at_call 10; refine (lines_walk _).mono ?_; rintro e w2 ⟨rfl, h2⟩; have H2 := Lib.hid h2; clear h2))
      go_ret
      exact ⟨rfl, H1.out.trans (H2.out.mono H1.out.size)⟩
    · go_enter Tryz.func4, Tryz.ntmps4
      go_wp2_with (first
        | (go_at_call 14; refine (HNM.out _).mono ?_; rintro e w1 ⟨rfl, hw⟩; (have hw := hw.symm); subst hw)
        | (go_at_call 15; refine (HF.out _).mono ?_; rintro e w1 ⟨rfl, hw⟩; (have hw := hw.symm); subst hw)
        | (go_at_call 16; refine (HNW.out _).mono ?_; rintro e w1 ⟨rfl, hw⟩; (have hw := hw.symm); subst hw)
        | (go_at_call 17; refine (HNB.out _).mono ?_; rintro e w1 ⟨rfl, h1⟩; have H1 := Lib.hid h1; clear h1)
        | (go_at_call 10; refine (lines_walk _).mono ?_; rintro e w2 ⟨rfl, h2⟩; have H2 := Lib.hid h2; clear h2))
      go_ret
      exact ⟨rfl, H1.out.trans (H2.out.mono H1.out.size)⟩
  · obtain ⟨F, hF⟩ : ∃ F, F = feS ++ h := ⟨_, rfl⟩
    have hFl : F.length ≤ 66 := by rw [hF, List.length_append]; show 6 + _ ≤ 66; omega
    have catF : (⟨#[102, 101, 56, 48, 58, 58]⟩ : ByteArray) ++ ⟨h.toArray⟩ = ⟨F.toArray⟩ := by rw [hF]; exact str_app feS h
    have HNW := Lib.hid (fun W : World => normal_walk F p W (by omega) (by omega))
    have z3 := size_list F
    have c1 := cat1 F
    have c2 := norm_cat F p
    obtain ⟨X, hX⟩ : ∃ X, X = F ++ 58 :: p := ⟨_, rfl⟩
    rw [← hX] at c1
    obtain ⟨Y, hY⟩ : ∃ Y, Y = 91 :: F ++ 93 :: 58 :: p := ⟨_, rfl⟩
    rw [← hY] at c2
    have k0 : (9223372036854775807 < 6 + h.length) = False := eq_false (by omega)
    have k1 : (9223372036854775807 < F.length + 1) = False := eq_false (by omega)
    have k2 : (9223372036854775807 < F.length + 1 + p.length) = False := eq_false (by omega)
    have k3 : (9223372036854775807 < 1 + F.length) = False := eq_false (by omega)
    have k4 : (9223372036854775807 < 1 + F.length + 2) = False := eq_false (by omega)
    have k5 : (9223372036854775807 < 1 + F.length + 2 + p.length) = False := eq_false (by omega)
    have HNZ := Lib.hid (fun W : World => normalized_walk Y (normP F p) W (fun W => by rw [hY, hF]; exact norm_brack h p hn hpn (by omega) W))
    obtain ⟨R, hR⟩ : ∃ R, R = normP F p := ⟨_, rfl⟩
    rw [← hR] at HNW HNZ
    clear cat1 hX hY hF hR hp hn ha h0 hl hpn hpl hq hFl
    cases bare
    · go_enter Tryz.func4, Tryz.ntmps4
      go_wp2_with (first
        | (go_at_call 14; refine (HNM.out _).mono ?_; rintro e w1 ⟨rfl, hw⟩; (have hw := hw.symm); subst hw)
        | (go_at_call 15; refine (HF.out _).mono ?_; rintro e w1 ⟨rfl, hw⟩; (have hw := hw.symm); subst hw)
        | (go_at_call 16; refine (HNW.out _).mono ?_; rintro e w1 ⟨rfl, hw⟩; (have hw := hw.symm); subst hw)
        | (go_at_call 17; refine (HNZ.out _).mono ?_; rintro e w1 ⟨rfl, h1⟩; have H1 := Lib.hid h1; clear h1)
        | (go_at_call 10; refine (lines_walk _).mono ?_; rintro e w2 ⟨rfl, h2⟩; have H2 := Lib.hid h2; clear h2))
      go_ret
      exact ⟨rfl, H1.out.trans (H2.out.mono H1.out.size)⟩
    · go_enter Tryz.func4, Tryz.ntmps4
      go_wp2_with (first
        | (go_at_call 14; refine (HNM.out _).mono ?_; rintro e w1 ⟨rfl, hw⟩; (have hw := hw.symm); subst hw)
        | (go_at_call 15; refine (HF.out _).mono ?_; rintro e w1 ⟨rfl, hw⟩; (have hw := hw.symm); subst hw)
        | (go_at_call 16; refine (HNW.out _).mono ?_; rintro e w1 ⟨rfl, hw⟩; (have hw := hw.symm); subst hw)
        | (go_at_call 17; refine (HNZ.out _).mono ?_; rintro e w1 ⟨rfl, h1⟩; have H1 := Lib.hid h1; clear h1)
        | (go_at_call 10; refine (lines_walk _).mono ?_; rintro e w2 ⟨rfl, h2⟩; have H2 := Lib.hid h2; clear h2))
      go_ret
      exact ⟨rfl, H2.out⟩
set_option maxRecDepth 100000 in
set_option maxHeartbeats 800000 in
theorem fn_normalized (h : List UInt8) (q : Nat) (bare colons : Bool) (w : World) (hq : q < 65536) :
    Calls Tryz.prog 4 #[.string ⟨h.toArray⟩, .int .u16 (q : Int), .bool bare, .bool colons] w fun e w' => e = .returned (.bool true) ∧ Below w.heap.size w w' := by
  by_cases hl : h.length ≤ 2147483647
  · cases hn : namedP h
    · have HNM := Lib.hid (fun W : World => named_walk h W hl)
      rw [hn] at HNM
      have z1 := size_list h
      have hgt : ((2147483647 : Int) < (h.length : Int)) = False := eq_false (by omega)
      clear hn hl hq
      go_enter Tryz.func4, Tryz.ntmps4
      go_wp2_with (first
        | (go_at_call 14; refine (HNM.out _).mono ?_; rintro e w1 ⟨rfl, hw⟩; (have hw := hw.symm); subst hw)
        | (go_at_call 10; refine (lines_walk _).mono ?_; rintro e w2 ⟨rfl, h2⟩; have H2 := Lib.hid h2; clear h2))
      go_ret
      exact ⟨rfl, H2.out⟩
    · exact fn_named h q bare colons w hq hn
  · have z1 := size_list h
    have hgt : ((2147483647 : Int) < (h.length : Int)) = True := eq_true (by omega)
    clear hl hq
    go_enter Tryz.func4, Tryz.ntmps4
    go_wp2_with fail
    go_ret
    exact ⟨rfl, Below.refl _ _⟩

end Go.Proofs.YtoeepfmmceilaaaGreatDoor
