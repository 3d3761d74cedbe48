/- Texts: slices of them, strings.IndexByte, LastIndexByte, HasPrefix. -/
import Derived.Test.YtoeepfmmceilaaaGreatDoorLnDrop
set_option linter.unusedVariables false
set_option linter.unusedSimpArgs false
namespace Go.Proofs.YtoeepfmmceilaaaGreatDoor
open Go.RowKit

theorem extract_list (l : List UInt8) (a b : Nat) : (⟨l.toArray⟩ : ByteArray).extract a b = ⟨((l.take b).drop a).toArray⟩ := by
  apply ByteArray.ext
  rw [ByteArray.data_extract]
  simp [List.drop_take]
theorem size_list (l : List UInt8) : (⟨l.toArray⟩ : ByteArray).size = l.length := by simp [ByteArray.size]
theorem slS_to (l : List UInt8) (k : Nat) (hk : k ≤ l.length) (W : World) : (Instr.slice 9 (.string ⟨l.toArray⟩) none (some (.int .i64 (k : Int))) none).run Tryz.prog W = .ok (.string ⟨(l.take k).toArray⟩) W := by
  rw [run_slice_string_h (P := Tryz.prog) W 9 ⟨l.toArray⟩ Tryz.underlying9 .i64 (k : Int) (by omega) (by rw [size_list]; omega), extract_list]
  simp
theorem slS_from (l : List UInt8) (k : Nat) (hk : k ≤ l.length) (W : World) : (Instr.slice 9 (.string ⟨l.toArray⟩) (some (.int .i64 (k : Int))) none none).run Tryz.prog W = .ok (.string ⟨(l.drop k).toArray⟩) W := by
  rw [run_slice_string_l (P := Tryz.prog) W 9 ⟨l.toArray⟩ Tryz.underlying9 .i64 (k : Int) (by omega) (by rw [size_list]; omega), extract_list, size_list]
  simp
theorem slS_mid (l : List UInt8) (j k : Nat) (hj : j ≤ k) (hk : k ≤ l.length) (W : World) : (Instr.slice 9 (.string ⟨l.toArray⟩) (some (.int .i64 (j : Int))) (some (.int .i64 (k : Int))) none).run Tryz.prog W = .ok (.string ⟨((l.take k).drop j).toArray⟩) W := by
  rw [run_slice_string (P := Tryz.prog) W 9 ⟨l.toArray⟩ .i64 .i64 (j : Int) (k : Int) Tryz.underlying9 (by omega) (by omega) (by rw [size_list]; omega), extract_list]
  simp

theorem index_str (l : List UInt8) (z : UInt8) (w : World) : Calls Tryz.prog 94 #[.string ⟨l.toArray⟩, .int .u8 (z.toNat : Int)] w fun e w' => e = .returned (.int .i64 (Lib.indexByte l z)) ∧ w' = w := by
  have hx := Lib.run_indexByteString (P := Tryz.prog) ⟨l.toArray⟩ (z.toNat : Int) w
  have hz : ((z.toNat : Int)).toNat.toUInt8 = z := by simp
  rw [hz] at hx
  have hcall : (callFunc 143 #[.string ⟨l.toArray⟩, .int .u8 (z.toNat : Int)]).run Tryz.prog w = .ok (.value (.int .i64 (Lib.indexByte l z))) w := by
    rw [run_callFunc_extern Tryz.func143 (by kernel_rfl) (by kernel_rfl) (by kernel_rfl) (e := Extern.BytealgIndexByte.indexByte) (by kernel_rfl), hx]
    rfl
  clear hx hz
  go_enter Tryz.func94, Tryz.ntmps94
  go_wp2_with (go_enter Tryz.func126, Tryz.ntmps126)
  go_ret
  exact ⟨rfl, rfl⟩

/-- Where a sign stands last: at j; -1: nowhere. -/
structure LastAt (l : List UInt8) (z : UInt8) (j : Int) : Prop where
  lo : -1 ≤ j
  hi : j < (l.length : Int)
  is_ : ∀ k : Nat, j = (k : Int) → l[k]? = some z
  non : ∀ k : Nat, j < (k : Int) → l[k]? ≠ some z
theorem get_list (l : List UInt8) (k : Nat) (x : UInt8) (hx : l[k]? = some x) (h : k < (⟨l.toArray⟩ : ByteArray).size) : (⟨l.toArray⟩ : ByteArray)[k]'h = x := by
  obtain ⟨h1, h2⟩ := List.getElem?_eq_some_iff.1 hx
  exact h2
theorem byte_eq (x z : UInt8) : ((x.toNat : Int) == (z.toNat : Int)) = (x == z) := by
  by_cases h : x = z
  · subst h; simp
  · have h1 : (x == z) = false := by rw [beq_eq_false_iff_ne]; exact h
    rw [h1, beq_eq_false_iff_ne]
    intro e
    exact h (UInt8.toNat_inj.1 (by omega))
set_option maxHeartbeats 400000 in
theorem last_nm (l : List UInt8) (z : UInt8) (j : Int) (w : World) (hl : l.length ≤ 1000000) (h : LastAt l z j) : Calls Tryz.prog 125 #[.string ⟨l.toArray⟩, .int .u8 (z.toNat : Int)] w fun e w' => e = .returned (.int .i64 j) ∧ w' = w := by
  have HL := Lib.hid h
  have hlo := h.lo
  have hhi := h.hi
  have hsz := size_list l
  clear h
  go_enter Tryz.func125, Tryz.ntmps125
  go_wp2_with fail
  go_loopg [5] ((l.length : Int) - 1 - j).toNat (fun gk v5 wr => ∃ i : Int, v5 = .int .i64 i ∧ j ≤ i ∧ i < (l.length : Int) ∧ Hid (gk = (i - j).toNat) ∧ wr = w)
  case atStart => exact ⟨_, rfl, by omega, by omega, rfl, rfl⟩
  case round =>
    obtain ⟨i, rfl, h1, h2, hgk, rfl⟩ := hrel
    by_cases hij : i = j
    · subst hij
      by_cases h0 : 0 ≤ i
      · obtain ⟨k, rfl⟩ : ∃ k : Nat, i = (k : Int) := ⟨i.toNat, by omega⟩
        have hix := get_list l k z (HL.out.is_ k rfl)
        have hkl : k < l.length := by omega
        go_wp2_with fail
        go_ret
        exact ⟨rfl, rfl⟩
      · obtain rfl : i = -1 := by omega
        go_wp2_with fail
        go_ret
        exact ⟨rfl, rfl⟩
    · obtain ⟨k, rfl⟩ : ∃ k : Nat, i = (k : Int) := ⟨i.toNat, by omega⟩
      have hkl : k < l.length := by omega
      obtain ⟨x, hx⟩ : ∃ x, l[k]? = some x := ⟨_, List.getElem?_eq_getElem hkl⟩
      have hxz : (x == z) = false := by
        rw [beq_eq_false_iff_ne]
        rintro rfl
        exact HL.out.non k (by omega) hx
      have hix := get_list l k x hx
      have hbe := byte_eq x z
      rw [hxz] at hbe
      go_wp2_with fail
      go_roundg (gk - 1)
      case measure => have := hgk.out; omega
      case rel =>
        have hg := hgk.out
        exact ⟨(k : Int) - 1, rfl, by omega, by omega, show _ = _ by omega, rfl⟩
theorem last_str (l : List UInt8) (z : UInt8) (j : Int) (w : World) (hl : l.length ≤ 1000000) (h : LastAt l z j) : Calls Tryz.prog 93 #[.string ⟨l.toArray⟩, .int .u8 (z.toNat : Int)] w fun e w' => e = .returned (.int .i64 j) ∧ w' = w := by
  have HL := Lib.hid (last_nm l z j w hl h)
  clear h
  go_enter Tryz.func93, Tryz.ntmps93
  go_wp2_with (go_at_call 125; refine HL.out.mono ?_; rintro e w1 ⟨rfl, hw⟩; (have hw := hw.symm); subst hw)
  go_ret
  exact ⟨rfl, rfl⟩

theorem index_58 (l : List UInt8) (w : World) : Calls Tryz.prog 94 #[.string ⟨l.toArray⟩, .int .u8 58] w fun e w' => e = .returned (.int .i64 (Lib.indexByte l 58)) ∧ w' = w := index_str l 58 w
theorem index_91 (l : List UInt8) (w : World) : Calls Tryz.prog 94 #[.string ⟨l.toArray⟩, .int .u8 91] w fun e w' => e = .returned (.int .i64 (Lib.indexByte l 91)) ∧ w' = w := index_str l 91 w
theorem index_93 (l : List UInt8) (w : World) : Calls Tryz.prog 94 #[.string ⟨l.toArray⟩, .int .u8 93] w fun e w' => e = .returned (.int .i64 (Lib.indexByte l 93)) ∧ w' = w := index_str l 93 w
theorem last_58 (l : List UInt8) (j : Int) (w : World) (hl : l.length ≤ 1000000) (h : LastAt l 58 j) : Calls Tryz.prog 93 #[.string ⟨l.toArray⟩, .int .u8 58] w fun e w' => e = .returned (.int .i64 j) ∧ w' = w := last_str l 58 j w hl h
theorem index_none (l : List UInt8) (c : UInt8) (h : ∀ y ∈ l, y ≠ c) : Lib.indexByte l c = -1 := by
  induction l with
  | nil => rfl
  | cons y l ih =>
    show (if y == c then 0 else if Lib.indexByte l c == -1 then -1 else Lib.indexByte l c + 1) = _
    have h1 : (y == c) = false := by rw [beq_eq_false_iff_ne]; exact h y (List.mem_cons_self ..)
    rw [h1, ih (fun z hz => h z (List.mem_cons_of_mem _ hz))]
    rfl
theorem index_at (l r : List UInt8) (c : UInt8) (h : ∀ y ∈ l, y ≠ c) : Lib.indexByte (l ++ c :: r) c = (l.length : Int) := by
  induction l with
  | nil => simp [Lib.indexByte]
  | cons y l ih =>
    have h1 := ih (fun z hz => h z (List.mem_cons_of_mem _ hz))
    show (if y == c then 0 else if Lib.indexByte (l ++ c :: r) c == -1 then -1 else Lib.indexByte (l ++ c :: r) c + 1) = _
    have h0 : (y == c) = false := by rw [beq_eq_false_iff_ne]; exact h y (List.mem_cons_self ..)
    rw [h0, h1]
    have h2 : ((l.length : Int) == -1) = false := by rw [beq_eq_false_iff_ne]; omega
    rw [h2]
    simp
theorem last_at (l r : List UInt8) (c : UInt8) (h : ∀ y ∈ r, y ≠ c) : LastAt (l ++ c :: r) c (l.length : Int) where
  lo := by omega
  hi := by rw [List.length_append, List.length_cons]; omega
  is_ := by
    intro k hk
    obtain rfl : l.length = k := by omega
    simp
  non := by
    intro k hk he
    rw [List.getElem?_append_right (by omega)] at he
    obtain ⟨m, hm⟩ : ∃ m, k - l.length = m + 1 := ⟨k - l.length - 1, by omega⟩
    rw [hm, List.getElem?_cons_succ] at he
    exact h c (List.mem_of_getElem? he) rfl
theorem last_none (l : List UInt8) (c : UInt8) (h : ∀ y ∈ l, y ≠ c) : LastAt l c (-1) where
  lo := by omega
  hi := by omega
  is_ := by intro k hk; omega
  non := by intro k hk he; exact h c (List.mem_of_getElem? he) rfl
set_option maxHeartbeats 400000 in
theorem no_prefix (x : UInt8) (r : List UInt8) (w : World) (hx : x ≠ 91) (hl : r.length ≤ 1000000) : Calls Tryz.prog 65 #[.string ⟨(x :: r).toArray⟩, .string ⟨#[91]⟩] w fun e w' => e = .returned (.bool false) ∧ w' = w := by
  obtain ⟨l, hl'⟩ : ∃ l, l = x :: r := ⟨_, rfl⟩
  have hll : (1 : Nat) ≤ l.length := by rw [hl', List.length_cons]; omega
  have hsz := size_list l
  have s1 : ∀ W : World, (Instr.slice 9 (.string ⟨l.toArray⟩) none (some (.int .i64 1)) none).run Tryz.prog W = .ok (.string ⟨#[x]⟩) W := fun W => by
    have := slS_to l 1 hll W
    rw [show (l.take 1) = [x] by rw [hl']; rfl] at this
    exact this
  have hx9 : (x == 91) = false := by rw [beq_eq_false_iff_ne]; exact hx
  have hge : ((1 : Int) ≤ (l.length : Int)) = True := eq_true (by omega)
  rw [← hl']
  clear hl' hl hll hx
  go_enter Tryz.func65, Tryz.ntmps65
  go_wp2_with (go_enter Tryz.func95, Tryz.ntmps95)
  go_ret
  exact ⟨rfl, rfl⟩

end Go.Proofs.YtoeepfmmceilaaaGreatDoor
