/- laws.FnNormalized: true of each host of at most zzMost bytes. -/
import Derived.Test.YtoeepfmmceilaaaGreatDoorLnNorm
import Derived.Test.YtoeepfmmceilaaaGreatDoorLnNamed
import Derived.Test.YtoeepfmmceilaaaGreatDoorLnLines
set_option linter.unusedVariables false
set_option linter.unusedSimpArgs false
namespace Go.Proofs.YtoeepfmmceilaaaGreatDoor
open Go.RowKit

theorem okS_not {x : UInt8} (h : okS x = true) : x ≠ 58 ∧ x ≠ 91 ∧ x ≠ 93 := by
  refine ⟨?_, ?_, ?_⟩ <;> (rintro rfl; revert h; decide)
theorem named_all {l : List UInt8} (h : namedP l = true) : l.all okS = true ∧ l ≠ [] ∧ l.length ≤ 60 := by
  unfold namedP at h
  simp only [Bool.and_eq_true, decide_eq_true_eq] at h
  exact ⟨h.1.1, h.1.2, h.2⟩
theorem digS_not : ∀ d : Fin 10, digS d.val ≠ 58 ∧ digS d.val ≠ 91 ∧ digS d.val ≠ 93 := by decide
theorem fig_not : ∀ (f n : Nat), n < 10 ^ (f + 1) → ∀ y ∈ figP f n, y ≠ 58 ∧ y ≠ 91 ∧ y ≠ 93
  | 0, n, h, y, hy => by
    rw [figP, List.mem_singleton] at hy
    subst hy
    exact digS_not ⟨n, by omega⟩
  | f + 1, n, h, y, hy => by
    rw [figP] at hy
    split at hy
    · rw [List.mem_singleton] at hy
      subst hy
      exact digS_not ⟨n, by assumption⟩
    · rcases List.mem_append.1 hy with hy | hy
      · exact fig_not f (n / 10) (by rw [Nat.pow_succ] at h; omega) y hy
      · rw [List.mem_singleton] at hy
        subst hy
        exact digS_not ⟨n % 10, Nat.mod_lt _ (by omega)⟩
/-- The three addresses, and what Normalize makes of them. -/
theorem norm_plain (h p : List UInt8) (hn : namedP h = true) (hp : ∀ y ∈ p, y ≠ 58 ∧ y ≠ 91 ∧ y ≠ 93) (hpl : p.length ≤ 100) (W : World) :
    Calls Tryz.prog 40 #[.string ⟨(h ++ 58 :: p).toArray⟩] W fun e w' => e = .returned (.string ⟨(normP h p).toArray⟩) ∧ Below W.heap.size W w' := by
  obtain ⟨ha, h0, hl⟩ := named_all hn
  have hs := fun y hy => okS_not (List.all_eq_true.1 ha y hy)
  match h, h0 with
  | x :: r, _ =>
    rw [List.length_cons] at hl
    refine (norm_ok (x :: r ++ 58 :: p) (x :: r) p W (by rw [List.length_cons]; omega) (by omega) (split_plain x r p W (by omega) (by omega) (fun y hy => (hs y hy).2) (fun y hy => (hs y hy).1) (fun y hy => (hp y hy).2) (fun y hy => (hp y hy).1)) (no_prefix x r W (hs x (List.mem_cons_self ..)).2.1 (by omega))).mono ?_
    rintro e w' ⟨h1, rfl⟩
    exact ⟨h1, Below.refl _ _⟩
def feS : List UInt8 := [102, 101, 56, 48, 58, 58]
theorem norm_brackF (x : UInt8) (r p : List UInt8) (hr : r.length ≤ 100) (hx : x ≠ 91) (hf : plainS (x :: r)) (hp : ∀ y ∈ p, y ≠ 58 ∧ y ≠ 91 ∧ y ≠ 93) (hpl : p.length ≤ 100) (W : World) :
    Calls Tryz.prog 40 #[.string ⟨(91 :: (x :: r) ++ 93 :: 58 :: p).toArray⟩] W fun e w' => e = .returned (.string ⟨(normP (x :: r) p).toArray⟩) ∧ Below W.heap.size W w' := by
  refine (norm_ok (91 :: (x :: r) ++ 93 :: 58 :: p) (x :: r) p W (by rw [List.length_cons]; omega) (by omega) (split_brack (x :: r) p W (by rw [List.length_cons]; omega) (by omega) hf (fun y hy => (hp y hy).2) (fun y hy => (hp y hy).1)) (no_prefix x r W hx (by omega))).mono ?_
  rintro e w' ⟨h1, rfl⟩
  exact ⟨h1, Below.refl _ _⟩
theorem norm_brack (h p : List UInt8) (hn : namedP h = true) (hp : ∀ y ∈ p, y ≠ 58 ∧ y ≠ 91 ∧ y ≠ 93) (hpl : p.length ≤ 100) (W : World) :
    Calls Tryz.prog 40 #[.string ⟨(91 :: (feS ++ h) ++ 93 :: 58 :: p).toArray⟩] W fun e w' => e = .returned (.string ⟨(normP (feS ++ h) p).toArray⟩) ∧ Below W.heap.size W w' := by
  obtain ⟨ha, h0, hl⟩ := named_all hn
  have hs := fun y hy => okS_not (List.all_eq_true.1 ha y hy)
  have hfp : plainS (feS ++ h) := by
    intro y hy
    rcases List.mem_append.1 hy with hy | hy
    · have : ∀ y ∈ feS, y ≠ 91 ∧ y ≠ 93 := by decide
      exact this y hy
    · exact (hs y hy).2
  have e : feS ++ h = 102 :: ([101, 56, 48, 58, 58] ++ h) := rfl
  rw [e] at hfp ⊢
  exact norm_brackF 102 ([101, 56, 48, 58, 58] ++ h) p (by rw [List.length_append]; show 5 + h.length ≤ 100; omega) (by decide) hfp hp hpl W
theorem norm_bare (h : List UInt8) (hn : namedP h = true) (W : World) :
    Calls Tryz.prog 40 #[.string ⟨h.toArray⟩] W fun e w' => e = .returned (.string ⟨h.toArray⟩) ∧ Below W.heap.size W w' := by
  obtain ⟨ha, h0, hl⟩ := named_all hn
  have hs := fun y hy => okS_not (List.all_eq_true.1 ha y hy)
  match h, h0 with
  | x :: r, _ =>
    rw [List.length_cons] at hl
    exact norm_err (x :: r) W (split_bare (x :: r) W (by rw [List.length_cons]; omega) (fun y hy => (hs y hy).1)) (fun W => no_prefix x r W (hs x (List.mem_cons_self ..)).2.1 (by omega))

set_option maxRecDepth 100000 in
set_option maxHeartbeats 1600000 in
theorem fn_named (h : List UInt8) (q : Nat) (bare colons : Bool) (w : World) (hq : q < 65536) (hn : namedP h = true) :
    Calls Tryz.prog 4 #[.string ⟨h.toArray⟩, .int .u16 (q : Int), .bool bare, .bool colons] w fun e w' => e = .returned (.bool true) ∧ Below w.heap.size w w' := by
  obtain ⟨ha, h0, hl⟩ := named_all hn
  have HNM := Lib.hid (fun W : World => named_walk h W (by omega))
  rw [hn] at HNM
  have HF := Lib.hid (fun W : World => fig_walk 5 q W (by omega) (by omega))
  have hpn := fig_not 5 q (by omega)
  have hpl := figP_len 5 q
  obtain ⟨p, hp⟩ : ∃ p, p = figP 5 q := ⟨_, rfl⟩
  rw [← hp] at HF hpn hpl
  have z1 := size_list h
  have z2 := size_list p
  have cat1 : ∀ H : List UInt8, (⟨H.toArray⟩ : ByteArray) ++ ⟨#[58]⟩ ++ ⟨p.toArray⟩ = ⟨(H ++ 58 :: p).toArray⟩ := fun H => by
    rw [str_one, str_app]
    simp
  have hwq : wrap64 (q : Int) = (q : Int) := by unfold wrap64; omega
  have hgt : ((2147483647 : Int) < (h.length : Int)) = False := eq_false (by omega)
  cases colons
  · have HNW := Lib.hid (fun W : World => normal_walk h p W (by omega) (by omega))
    have c1 := cat1 h
    obtain ⟨X, hX⟩ : ∃ X, X = h ++ 58 :: p := ⟨_, rfl⟩
    rw [← hX] at c1
    have k1 : (9223372036854775807 < h.length + 1) = False := eq_false (by omega)
    have k2 : (9223372036854775807 < h.length + 1 + p.length) = False := eq_false (by omega)
    have HNZ := Lib.hid (fun W : World => normalized_walk X (normP h p) W (fun W => by rw [hX]; exact norm_plain h p hn hpn (by omega) W))
    have HNB := Lib.hid (fun W : World => normalized_walk h h W (fun W => norm_bare h hn W))
    obtain ⟨R, hR⟩ : ∃ R, R = normP h p := ⟨_, rfl⟩
    rw [← hR] at HNW HNZ
    clear cat1 hX hR hp hn ha h0 hl hpn hpl hq
    cases bare
    · go_enter Tryz.func4, Tryz.ntmps4
      go_wp2_with (first
        | (go_at_call 14; refine (HNM.out _).mono ?_; rintro e w1 ⟨rfl, hw⟩; (have hw := hw.symm); subst hw)
        | (go_at_call 15; refine (HF.out _).mono ?_; rintro e w1 ⟨rfl, hw⟩; (have hw := hw.symm); subst hw)
        | (go_at_call 16; refine (HNW.out _).mono ?_; rintro e w1 ⟨rfl, hw⟩; (have hw := hw.symm); subst hw)
        | (go_at_call 17; refine (HNZ.out _).mono ?_; rintro e w1 ⟨rfl, h1⟩; have H1 := Lib.hid h1; clear h1)
        | (go_at_call 10; refine (lines_walk _).mono ?_; rintro e w2 ⟨rfl, h2⟩; have H2 := Lib.hid h2; clear h2))
      go_ret
      exact ⟨rfl, H1.out.trans (H2.out.mono H1.out.size)⟩
    · go_enter Tryz.func4, Tryz.ntmps4
      go_wp2_with (first
        | (go_at_call 14; refine (HNM.out _).mono ?_; rintro e w1 ⟨rfl, hw⟩; (have hw := hw.symm); subst hw)
        | (go_at_call 15; refine (HF.out _).mono ?_; rintro e w1 ⟨rfl, hw⟩; (have hw := hw.symm); subst hw)
        | (go_at_call 16; refine (HNW.out _).mono ?_; rintro e w1 ⟨rfl, hw⟩; (have hw := hw.symm); subst hw)
        | (go_at_call 17; refine (HNB.out _).mono ?_; rintro e w1 ⟨rfl, h1⟩; have H1 := Lib.hid h1; clear h1)
        | (go_at_call 10; refine (lines_walk _).mono ?_; rintro e w2 ⟨rfl, h2⟩; have H2 := Lib.hid h2; clear h2))
      go_ret
      exact ⟨rfl, H1.out.trans (H2.out.mono H1.out.size)⟩
  · obtain ⟨F, hF⟩ : ∃ F, F = feS ++ h := ⟨_, rfl⟩
    have hFl : F.length ≤ 66 := by rw [hF, List.length_append]; show 6 + _ ≤ 66; omega
    have catF : (⟨#[102, 101, 56, 48, 58, 58]⟩ : ByteArray) ++ ⟨h.toArray⟩ = ⟨F.toArray⟩ := by rw [hF]; exact str_app feS h
    have HNW := Lib.hid (fun W : World => normal_walk F p W (by omega) (by omega))
    have z3 := size_list F
    have c1 := cat1 F
    have c2 := norm_cat F p
    obtain ⟨X, hX⟩ : ∃ X, X = F ++ 58 :: p := ⟨_, rfl⟩
    rw [← hX] at c1
    obtain ⟨Y, hY⟩ : ∃ Y, Y = 91 :: F ++ 93 :: 58 :: p := ⟨_, rfl⟩
    rw [← hY] at c2
    have k0 : (9223372036854775807 < 6 + h.length) = False := eq_false (by omega)
    have k1 : (9223372036854775807 < F.length + 1) = False := eq_false (by omega)
    have k2 : (9223372036854775807 < F.length + 1 + p.length) = False := eq_false (by omega)
    have k3 : (9223372036854775807 < 1 + F.length) = False := eq_false (by omega)
    have k4 : (9223372036854775807 < 1 + F.length + 2) = False := eq_false (by omega)
    have k5 : (9223372036854775807 < 1 + F.length + 2 + p.length) = False := eq_false (by omega)
    have HNZ := Lib.hid (fun W : World => normalized_walk Y (normP F p) W (fun W => by rw [hY, hF]; exact norm_brack h p hn hpn (by omega) W))
    obtain ⟨R, hR⟩ : ∃ R, R = normP F p := ⟨_, rfl⟩
    rw [← hR] at HNW HNZ
    clear cat1 hX hY hF hR hp hn ha h0 hl hpn hpl hq hFl
    cases bare
    · go_enter Tryz.func4, Tryz.ntmps4
      go_wp2_with (first
        | (go_at_call 14; refine (HNM.out _).mono ?_; rintro e w1 ⟨rfl, hw⟩; (have hw := hw.symm); subst hw)
        | (go_at_call 15; refine (HF.out _).mono ?_; rintro e w1 ⟨rfl, hw⟩; (have hw := hw.symm); subst hw)
        | (go_at_call 16; refine (HNW.out _).mono ?_; rintro e w1 ⟨rfl, hw⟩; (have hw := hw.symm); subst hw)
        | (go_at_call 17; refine (HNZ.out _).mono ?_; rintro e w1 ⟨rfl, h1⟩; have H1 := Lib.hid h1; clear h1)
        | (go_at_call 10; refine (lines_walk _).mono ?_; rintro e w2 ⟨rfl, h2⟩; have H2 := Lib.hid h2; clear h2))
      go_ret
      exact ⟨rfl, H1.out.trans (H2.out.mono H1.out.size)⟩
    · go_enter Tryz.func4, Tryz.ntmps4
      go_wp2_with (first
        | (go_at_call 14; refine (HNM.out _).mono ?_; rintro e w1 ⟨rfl, hw⟩; (have hw := hw.symm); subst hw)
        | (go_at_call 15; refine (HF.out _).mono ?_; rintro e w1 ⟨rfl, hw⟩; (have hw := hw.symm); subst hw)
        | (go_at_call 16; refine (HNW.out _).mono ?_; rintro e w1 ⟨rfl, hw⟩; (have hw := hw.symm); subst hw)
        | (go_at_call 17; refine (HNZ.out _).mono ?_; rintro e w1 ⟨rfl, h1⟩; have H1 := Lib.hid h1; clear h1)
        | (go_at_call 10; refine (lines_walk _).mono ?_; rintro e w2 ⟨rfl, h2⟩; have H2 := Lib.hid h2; clear h2))
      go_ret
      exact ⟨rfl, H2.out⟩
set_option maxRecDepth 100000 in
set_option maxHeartbeats 800000 in
theorem fn_normalized (h : List UInt8) (q : Nat) (bare colons : Bool) (w : World) (hq : q < 65536) :
    Calls Tryz.prog 4 #[.string ⟨h.toArray⟩, .int .u16 (q : Int), .bool bare, .bool colons] w fun e w' => e = .returned (.bool true) ∧ Below w.heap.size w w' := by
  by_cases hl : h.length ≤ 2147483647
  · cases hn : namedP h
    · have HNM := Lib.hid (fun W : World => named_walk h W hl)
      rw [hn] at HNM
      have z1 := size_list h
      have hgt : ((2147483647 : Int) < (h.length : Int)) = False := eq_false (by omega)
      clear hn hl hq
      go_enter Tryz.func4, Tryz.ntmps4
      go_wp2_with (first
        | (go_at_call 14; refine (HNM.out _).mono ?_; rintro e w1 ⟨rfl, hw⟩; (have hw := hw.symm); subst hw)
        | (go_at_call 10; refine (lines_walk _).mono ?_; rintro e w2 ⟨rfl, h2⟩; have H2 := Lib.hid h2; clear h2))
      go_ret
      exact ⟨rfl, H2.out⟩
    · exact fn_named h q bare colons w hq hn
  · have z1 := size_list h
    have hgt : ((2147483647 : Int) < (h.length : Int)) = True := eq_true (by omega)
    clear hl hq
    go_enter Tryz.func4, Tryz.ntmps4
    go_wp2_with fail
    go_ret
    exact ⟨rfl, Below.refl _ _⟩

end Go.Proofs.YtoeepfmmceilaaaGreatDoor
