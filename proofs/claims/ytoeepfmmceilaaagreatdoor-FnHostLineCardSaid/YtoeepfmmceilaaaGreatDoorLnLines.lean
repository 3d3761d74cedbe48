/- laws.lines: true. -/
import Derived.Test.YtoeepfmmceilaaaGreatDoorLnLine
import Derived.Test.YtoeepfmmceilaaaGreatDoorLnRl
set_option linter.unusedVariables false
set_option linter.unusedSimpArgs false
namespace Go.Proofs.YtoeepfmmceilaaaGreatDoor
open Go.RowKit

theorem indexByte_app (l r : List UInt8) (c : UInt8) (h : ∀ y ∈ l, (y == c) = false) : Lib.indexByte (l ++ c :: r) c = (l.length : Int) := by
  induction l with
  | nil => simp [Lib.indexByte]
  | cons y l ih =>
    have h1 := ih (fun z hz => h z (List.mem_cons_of_mem _ hz))
    show (if y == c then 0 else if Lib.indexByte (l ++ c :: r) c == -1 then -1 else Lib.indexByte (l ++ c :: r) c + 1) = _
    rw [h y (List.mem_cons_self ..), h1]
    have h2 : ((l.length : Int) == -1) = false := by rw [beq_eq_false_iff_ne]; omega
    rw [h2]
    simp
theorem sign_10 : ∀ d : Fin 64, (signP d.val == 10) = false := by decide
theorem sign_ne10 {n : Nat} (h : n < 64) : (signP n == 10) = false := sign_10 ⟨n, h⟩
/-- The new row of a text's bytes, its bounds told. -/
theorem conv_new2 (W : World) (s : List UInt8) (t : TypeId) (ht : Tryz.prog.underlying t = some .string) (hs : s.length ≤ 1000000) : ∃ W' A c, (convert t 28 (.string ⟨s.toArray⟩)).run Tryz.prog W = .ok (.slice A s.length c) W' ∧ s.length ≤ c ∧ c ≤ 9223372036854775807 ∧ RR (lit byteV) all_ W' A s ∧ Below W.heap.size W W' := by
  have hr := Lib.run_convert_string_bytes (P := Tryz.prog) W t 28 5 ⟨s.toArray⟩ ht Tryz.underlying28 Tryz.underlying5
  have hsz : (⟨s.toArray⟩ : ByteArray).size = s.length := by simp [ByteArray.size]
  rw [hsz] at hr
  have h1 : grownCap W s.length 0 5 ≤ maxLen := grownCap_le_maxLen W s.length 0 5 (by show s.length ≤ 9223372036854775807; omega)
  exact ⟨_, _, _, hr, grownCap_ge _ _ _ _, h1, (conv_RR W s).mono (lit_steady _) (fun _ _ _ => trivial), conv_below W s⟩
/-- The text of the plain line. -/
def plainLine : List UInt8 := nameEd ++ [32] ++ b64P (edBytes plainPt) ++ [32, 97]
theorem plain_no10 : ∀ y ∈ plainLine, (y == 10) = false := by
  have : (plainLine.all fun y => !(y == 10)) = true := by kernel_rfl
  intro y hy
  have h := List.all_eq_true.1 this y hy
  simpa using h
theorem plain_ed : EdLine (plainLine ++ [10]) plainPt [97] (b64P (edBytes plainPt) ++ [32, 97]) 82 where
  pt32 := by kernel_rfl
  end_ := by
    rw [indexByte_app plainLine [] 10 plain_no10]
    kernel_rfl
  lt := by
    have : (plainLine ++ [10]).length = 83 := by kernel_rfl
    omega
  line := by kernel_rfl
  key := by kernel_rfl
theorem plain_cm : trimP (32 :: [97]) = [97] := by kernel_rfl

set_option maxRecDepth 100000 in
set_option maxHeartbeats 800000 in
theorem lines_walk (w : World) : Calls Tryz.prog 10 #[] w fun e w' => e = .returned (.bool true) ∧ Below w.heap.size w w' := by
  have hpl : plainPt.length = 32 := by kernel_rfl
  have HT := Lib.hid (fun (W : World) (g : Nat) (hr : RR (lit byteV) (fun b => b = g) W (some ⟨g, 0, none⟩) plainPt) => lineText_ed (fun b => b = g) (some ⟨g, 0, none⟩) 32 plainPt (.string ⟨#[]⟩) (.slice none 0 0) (.slice none 0 0) W (by omega) (by omega) hr rfl rfl rfl)
  rw [hpl] at HT
  obtain ⟨X, hX⟩ : ∃ X, X = nameEd ++ [32] ++ b64P (edBytes plainPt) := ⟨_, rfl⟩
  have hXl : X.length = 80 := by rw [hX]; kernel_rfl
  rw [← hX] at HT
  obtain ⟨Y, hY⟩ : ∃ Y, Y = plainLine ++ [10] := ⟨_, rfl⟩
  have hXY : (⟨X.toArray⟩ : ByteArray) ++ ⟨#[32, 97, 10]⟩ = ⟨Y.toArray⟩ := by
    rw [hX, hY]
    refine (str_app _ [32, 97, 10]).trans ?_
    unfold plainLine
    rw [List.append_assoc _ [32, 97] [10]]
    rfl
  have hYl : Y.length = 83 := by rw [hY]; kernel_rfl
  have hsz : (⟨Y.toArray⟩ : ByteArray).size = Y.length := by simp [ByteArray.size]
  have HR := Lib.hid (fun (W : World) (A : Option Addr) (c : Nat) (hc : Y.length ≤ c) (hm : c ≤ 9223372036854775807) (hr : RR (lit byteV) all_ W A Y) => by
    have := readLine_ed A c Y plainPt [97] (b64P (edBytes plainPt) ++ [32, 97]) 82 W (hY ▸ plain_ed) (by omega) hc hm hr
    rw [plain_cm] at this
    exact this)
  have HCV := Lib.hid (fun W : World => conv_new2 W Y 9 Tryz.underlying9 (by omega))
  have HXl := Lib.hid hXl
  clear hX hpl hY hXl hYl
  have hk1 : (9223372036854775807 < X.length + 3) = False := eq_false (by have := HXl.out; omega)
  go_enter Tryz.func10, Tryz.ntmps10
  go_wp2_with (first
    | (go_at_call 29; refine (plainKey_walk _).mono ?_; rintro e w1 ⟨g, rfl, hg, h1, h2⟩; have H1 := Lib.hid h1; have H2 := Lib.hid h2; clear h1 h2)
    | (go_at_call 25; refine (HT.out _ _ H1.out).mono ?_; rintro e w2 ⟨rfl, h3⟩; obtain ⟨W4, A4, c4, hcv, hc1, hc2, hr4, hb4⟩ := HCV.out w2; have HR4 := Lib.hid hr4; have HB4 := Lib.hid (show Below w.heap.size w W4 from (H2.out.trans (h3.mono H2.out.size)).trans (hb4.mono (Nat.le_trans H2.out.size h3.size))); have HC := Lib.hid (And.intro hc1 hc2); clear hr4 hb4 hc1 hc2 h3)
    | (go_at_call 12; refine (HR.out W4 A4 c4 HC.out.1 HC.out.2 HR4.out).mono ?_; rintro e w5 ⟨⟨B2, m2, d2, B4, m4, d4, B5, m5, d5, rfl⟩, h5⟩; have H5 := Lib.hid h5; clear h5))
  go_ret
  have h5 : Below w.heap.size w w5 := HB4.out.trans (H5.out.mono HB4.out.size)
  exact ⟨rfl, h5.alloc h5.size _⟩

end Go.Proofs.YtoeepfmmceilaaaGreatDoor
