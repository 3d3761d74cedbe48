/- Arguments as they come in: lists read off their data. Taken from the first seat's text. -/
import Derived.Test.YtmblpmmnglmjfaaGreatDoorAgInfo
import Derived.ProofKit
import Derived.Deep.Slices
import Derived.Deep.SlicePairs
import Derived.Deep.Fields
import Derived.OpenShut
set_option linter.unusedVariables false
set_option linter.unusedSimpArgs false
namespace Go.Proofs.YtmblpmmnglmjfaaGreatDoor
open Go.RowKit Go.Deep Go.ChangeShapes Go.WideShapes

section
variable {H : Type} {enc : TypeId × Value → H} {w : World} {spare : Nat → Bool} {held : Bool}

/-- A slice of one-cell elements, each of which says something. -/
theorem SL_of_trod {α : Type} [Inhabited α] {R : Say α} {Q : α → Prop} {t e : TypeId} (ht : Tryz.prog.underlying t = some (.slice e)) (hc : Tryz.prog.cellsOf e = 1)
    (hel : ∀ (fuel : Nat) (v : Value) (y : DataW H × List MemPlace), DataW.trod enc Tryz.prog w 0 spare held fuel e [v] = some y → ∃ x : α, R all_ w v x ∧ Q x)
    {fuel : Nat} {v : Value} {x : DataW H × List MemPlace} (h : DataW.trod enc Tryz.prog w 0 spare held fuel t [v] = some x) : ∃ l : List α, SL R all_ w v l ∧ ∀ x ∈ l, Q x := by
  rcases open_slice1 ht hc h with ⟨hv, _⟩ | ⟨a, len, cap, m, n, V, D, Pl, hv, _, hl, hm, hmm, _, hx⟩
  · obtain rfl : v = .slice none 0 0 := by simpa using hv
    exact ⟨[], SL.none_ _ _ _, fun x hx => by simp at hx⟩
  · obtain rfl : v = .slice (some a) len cap := by simpa using hv
    have hlm : len ≤ m := by rw [hmm]; split <;> omega
    obtain ⟨f, hf⟩ := choose_lt (α := α) (n := len) (p := fun i x => R all_ w (V i) x ∧ Q x) (fun i hi => hel n (V i) (D i, Pl i) (hx i (by omega)).2)
    refine ⟨(List.range len).map f, ⟨some a, cap, by simp, by simpa using hl, by simpa [maxLen] using hm, fun i x hi => ?_⟩, fun x hx => ?_⟩
    · rw [List.getElem?_map] at hi
      obtain ⟨j, hj, rfl⟩ := Option.map_eq_some_iff.1 hi
      obtain ⟨h1, h2⟩ := List.getElem?_eq_some_iff.1 hj
      have h3 : i < len := by simpa using h1
      have h4 : i = j := by simpa using h2
      subst h4
      exact ⟨a, V i, rfl, trivial, (hx i (by omega)).1, (hf i h3).1⟩
    · obtain ⟨i, hi, rfl⟩ := List.mem_map.1 hx
      exact (hf i (by simpa using hi)).2
theorem el_u32 (fuel : Nat) (v : Value) (y : DataW H × List MemPlace) (h : DataW.trod enc Tryz.prog w 0 spare held fuel 83 [v] = some y) : ∃ x : Nat, lit u32V all_ w v x ∧ x < 4294967296 := by
  obtain ⟨n, hv, _, hw⟩ := DataW.trod_int Tryz.underlying83 h
  obtain rfl : v = .int .u32 n := by simpa using hv
  have hb := bounds_u32 hw
  exact ⟨n.toNat, by show _ = Value.int .u32 _; rw [Int.toNat_of_nonneg hb.1], by omega⟩
theorem el_str (fuel : Nat) (v : Value) (y : DataW H × List MemPlace) (h : DataW.trod enc Tryz.prog w 0 spare held fuel 9 [v] = some y) : ∃ x : List UInt8, lit strV all_ w v x ∧ True := by
  obtain ⟨s, hv, _, hw⟩ := DataW.trod_string Tryz.underlying9 h
  obtain rfl : v = .string s := by simpa using hv
  exact ⟨s.data.toList, by show _ = Value.string _; simp, trivial⟩
theorem el_bool (fuel : Nat) (v : Value) (y : DataW H × List MemPlace) (h : DataW.trod enc Tryz.prog w 0 spare held fuel 4 [v] = some y) : ∃ x : Bool, lit Value.bool all_ w v x ∧ True := by
  obtain ⟨b, hv, _⟩ := DataW.trod_bool Tryz.underlying4 h
  obtain rfl : v = .bool b := by simpa using hv
  exact ⟨b, rfl, trivial⟩
theorem el_u8 (fuel : Nat) (v : Value) (y : DataW H × List MemPlace) (h : DataW.trod enc Tryz.prog w 0 spare held fuel 5 [v] = some y) : ∃ x : UInt8, lit byteV all_ w v x ∧ True := by
  obtain ⟨n, hv, _, hw⟩ := DataW.trod_int Tryz.underlying5 h
  obtain rfl : v = .int .u8 n := by simpa using hv
  have hb := bounds_u8 hw
  refine ⟨UInt8.ofNat n.toNat, ?_, trivial⟩
  show _ = Value.int .u8 _
  rw [UInt8.toNat_ofNat_of_lt' (by show n.toNat < 256; omega), Int.toNat_of_nonneg hb.1]
theorem el_strs (fuel : Nat) (v : Value) (y : DataW H × List MemPlace) (h : DataW.trod enc Tryz.prog w 0 spare held fuel 22 [v] = some y) : ∃ x : List (List UInt8), Strs all_ w v x ∧ True := by
  obtain ⟨l, hl, _⟩ := SL_of_trod (R := lit strV) (Q := fun _ => True) Tryz.underlying22 (by kernel_rfl) el_str h
  exact ⟨l, hl, trivial⟩

end

end Go.Proofs.YtmblpmmnglmjfaaGreatDoor
