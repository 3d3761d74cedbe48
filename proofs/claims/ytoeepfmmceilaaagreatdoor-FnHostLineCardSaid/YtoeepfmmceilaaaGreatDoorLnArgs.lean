/- Arguments as they come in: a key, read off its data. Turned from the first seat's text. -/
import Derived.Test.YtoeepfmmceilaaaGreatDoorLnKeyP
import Derived.ProofKit
import Derived.Deep.Slices
import Derived.Deep.SlicePairs
import Derived.Deep.Fields
import Derived.OpenShut
set_option linter.unusedVariables false
set_option linter.unusedSimpArgs false
namespace Go.Proofs.YtoeepfmmceilaaaGreatDoor
open Go.RowKit Go.Deep Go.ChangeShapes Go.WideShapes

section
variable {H : Type} {enc : TypeId × Value → H} {w : World} {spare : Nat → Bool} {held : Bool}

/-- A slice of one-cell elements, each of which says something. -/
theorem SL_of_trod {α : Type} [Inhabited α] {R : Say α} {Q : α → Prop} {t e : TypeId} (ht : Tryz.prog.underlying t = some (.slice e)) (hc : Tryz.prog.cellsOf e = 1)
    (hel : ∀ (fuel : Nat) (v : Value) (y : DataW H × List MemPlace), DataW.trod enc Tryz.prog w 0 spare held fuel e [v] = some y → ∃ x : α, R all_ w v x ∧ Q x)
    {fuel : Nat} {v : Value} {x : DataW H × List MemPlace} (h : DataW.trod enc Tryz.prog w 0 spare held fuel t [v] = some x) : ∃ l : List α, SL R all_ w v l ∧ ∀ x ∈ l, Q x := by
  rcases open_slice1 ht hc h with ⟨hv, _⟩ | ⟨a, len, cap, m, n, V, D, Pl, hv, _, hl, hm, hmm, _, hx⟩
  · obtain rfl : v = .slice none 0 0 := by simpa using hv
    exact ⟨[], SL.none_ _ _ _, fun x hx => by simp at hx⟩
  · obtain rfl : v = .slice (some a) len cap := by simpa using hv
    have hlm : len ≤ m := by rw [hmm]; split <;> omega
    obtain ⟨f, hf⟩ := choose_lt (α := α) (n := len) (p := fun i x => R all_ w (V i) x ∧ Q x) (fun i hi => hel n (V i) (D i, Pl i) (hx i (by omega)).2)
    refine ⟨(List.range len).map f, ⟨some a, cap, by simp, by simpa using hl, by simpa [maxLen] using hm, fun i x hi => ?_⟩, fun x hx => ?_⟩
    · rw [List.getElem?_map] at hi
      obtain ⟨j, hj, rfl⟩ := Option.map_eq_some_iff.1 hi
      obtain ⟨h1, h2⟩ := List.getElem?_eq_some_iff.1 hj
      have h3 : i < len := by simpa using h1
      have h4 : i = j := by simpa using h2
      subst h4
      exact ⟨a, V i, rfl, trivial, (hx i (by omega)).1, (hf i h3).1⟩
    · obtain ⟨i, hi, rfl⟩ := List.mem_map.1 hx
      exact (hf i (by simpa using hi)).2
theorem el_str (fuel : Nat) (v : Value) (y : DataW H × List MemPlace) (h : DataW.trod enc Tryz.prog w 0 spare held fuel 9 [v] = some y) : ∃ x : List UInt8, lit strV all_ w v x ∧ True := by
  obtain ⟨s, hv, _, hw⟩ := DataW.trod_string Tryz.underlying9 h
  obtain rfl : v = .string s := by simpa using hv
  exact ⟨s.data.toList, by show _ = Value.string _; simp, trivial⟩
theorem el_u8 (fuel : Nat) (v : Value) (y : DataW H × List MemPlace) (h : DataW.trod enc Tryz.prog w 0 spare held fuel 5 [v] = some y) : ∃ x : UInt8, lit byteV all_ w v x ∧ True := by
  obtain ⟨n, hv, _, hw⟩ := DataW.trod_int Tryz.underlying5 h
  obtain rfl : v = .int .u8 n := by simpa using hv
  have hb := bounds_u8 hw
  refine ⟨UInt8.ofNat n.toNat, ?_, trivial⟩
  show _ = Value.int .u8 _
  rw [UInt8.toNat_ofNat_of_lt' (by show n.toNat < 256; omega), Int.toNat_of_nonneg hb.1]
theorem cells_int : Tryz.prog.cellsOf 3 = 1 := by kernel_rfl
theorem cells_st : Tryz.prog.cellsOf 9 = 1 := by kernel_rfl
theorem cells_bs : Tryz.prog.cellsOf 28 = 1 := by kernel_rfl
set_option maxRecDepth 100000 in
theorem cells_key : Tryz.prog.cellsOf 44 = 5 := by kernel_rfl
set_option maxRecDepth 100000 in
/-- A key that came in. -/
theorem key_of_trod {r : Reach} {b0 : Nat} {v : Value} {d : DataW H} {p : List MemPlace} (hv : Value.okWide Tryz.prog w r b0 44 v) (h : DataW.Trod enc Tryz.prog w 0 spare held 44 v d p) : ∃ K : KeyP, KeyAt all_ w v K := by
  obtain ⟨cs, rfl, hsz⟩ := okWide_struct Tryz.underlying44 hv
  have hC := cells_key
  obtain ⟨l⟩ := cs
  obtain ⟨c0, c1, c2, c3, c4, rfl⟩ : ∃ c0 c1 c2 c3 c4, l = [c0, c1, c2, c3, c4] := by
    have : l.length = 5 := by simpa [hC] using hsz
    match l, this with
    | [c0, c1, c2, c3, c4], _ => exact ⟨_, _, _, _, _, rfl⟩
  obtain ⟨fuel, hf⟩ := h
  obtain ⟨xs, n, _, _, _, hlen, hall⟩ := DataW.trod_struct Tryz.underlying44 hf
  have hcs : (Value.agg #[c0, c1, c2, c3, c4]).cells.toList = [c0, c1, c2, c3, c4] := by simp [Value.cells]
  rw [hcs] at hall
  obtain ⟨y0, k0⟩ : ∃ y, DataW.trod enc Tryz.prog w 0 spare held n 3 [c0] = some y := by
    have h0 : DataW.trod enc Tryz.prog w 0 spare held n 3 (([c0, c1, c2, c3, c4].drop 0).take (Tryz.prog.cellsOf 3)) = xs[0]? := hall 0 _ rfl
    rw [cells_int] at h0
    exact ⟨_, h0.trans (List.getElem?_eq_getElem (by rw [hlen]; decide))⟩
  obtain ⟨y1, k1⟩ : ∃ y, DataW.trod enc Tryz.prog w 0 spare held n 28 [c1] = some y := by
    have h0 : DataW.trod enc Tryz.prog w 0 spare held n 28 (([c0, c1, c2, c3, c4].drop 1).take (Tryz.prog.cellsOf 28)) = xs[1]? := hall 1 _ rfl
    rw [cells_bs] at h0
    exact ⟨_, h0.trans (List.getElem?_eq_getElem (by rw [hlen]; decide))⟩
  obtain ⟨y2, k2⟩ : ∃ y, DataW.trod enc Tryz.prog w 0 spare held n 9 [c2] = some y := by
    have h0 : DataW.trod enc Tryz.prog w 0 spare held n 9 (([c0, c1, c2, c3, c4].drop 2).take (Tryz.prog.cellsOf 9)) = xs[2]? := hall 2 _ rfl
    rw [cells_st] at h0
    exact ⟨_, h0.trans (List.getElem?_eq_getElem (by rw [hlen]; decide))⟩
  obtain ⟨y3, k3⟩ : ∃ y, DataW.trod enc Tryz.prog w 0 spare held n 28 [c3] = some y := by
    have h0 : DataW.trod enc Tryz.prog w 0 spare held n 28 (([c0, c1, c2, c3, c4].drop 3).take (Tryz.prog.cellsOf 28)) = xs[3]? := hall 3 _ rfl
    rw [cells_bs] at h0
    exact ⟨_, h0.trans (List.getElem?_eq_getElem (by rw [hlen]; decide))⟩
  obtain ⟨y4, k4⟩ : ∃ y, DataW.trod enc Tryz.prog w 0 spare held n 28 [c4] = some y := by
    have h0 : DataW.trod enc Tryz.prog w 0 spare held n 28 (([c0, c1, c2, c3, c4].drop 4).take (Tryz.prog.cellsOf 28)) = xs[4]? := hall 4 _ rfl
    rw [cells_bs] at h0
    exact ⟨_, h0.trans (List.getElem?_eq_getElem (by rw [hlen]; decide))⟩
  obtain ⟨num, hn, _, hw⟩ := DataW.trod_int Tryz.underlying3 k0
  obtain rfl : c0 = .int .i64 num := by simpa using hn
  obtain ⟨l1, ⟨A1, q1, rfl, a1, b1, r1⟩, _⟩ := SL_of_trod (R := lit byteV) (Q := fun _ => True) Tryz.underlying28 (by kernel_rfl) el_u8 k1
  obtain ⟨l2, h2, _⟩ := el_str n c2 y2 k2
  obtain rfl : c2 = strV l2 := h2
  obtain ⟨l3, ⟨A3, q3, rfl, a3, b3, r3⟩, _⟩ := SL_of_trod (R := lit byteV) (Q := fun _ => True) Tryz.underlying28 (by kernel_rfl) el_u8 k3
  obtain ⟨l4, ⟨A4, q4, rfl, a4, b4, r4⟩, _⟩ := SL_of_trod (R := lit byteV) (Q := fun _ => True) Tryz.underlying28 (by kernel_rfl) el_u8 k4
  exact ⟨⟨num, l1, l2, l3, l4⟩, A1, q1, A3, q3, A4, q4, rfl, ⟨a1, a3, a4, b1, b3, b4⟩, r1, r3, r4⟩

end

end Go.Proofs.YtoeepfmmceilaaaGreatDoor
