/- Arguments as they come in: a message, bytes, turned places, read off their data. -/
import Derived.Test.YtnlkgaobbobakaaMsg
import Derived.ProofKit
import Derived.Deep.Slices
import Derived.Deep.SlicePairs
import Derived.Deep.Fields
import Derived.OpenShut
set_option linter.unusedVariables false
set_option linter.unusedSimpArgs false
namespace Go.Proofs.Ytnlkgaobbobakaa
open Go.RowKit Go.Deep Go.ChangeShapes Go.WideShapes

section
variable {H : Type} {enc : TypeId × Value → H} {w : World} {spare : Nat → Bool} {held : Bool}

/-- A slice of one-cell elements, each of which says something. -/
theorem SL_of_trod {α : Type} [Inhabited α] {R : Say α} {Q : α → Prop} {t e : TypeId} (ht : Try.prog.underlying t = some (.slice e)) (hc : Try.prog.cellsOf e = 1)
    (hel : ∀ (fuel : Nat) (v : Value) (y : DataW H × List MemPlace), DataW.trod enc Try.prog w 0 spare held fuel e [v] = some y → ∃ x : α, R all_ w v x ∧ Q x)
    {fuel : Nat} {v : Value} {x : DataW H × List MemPlace} (h : DataW.trod enc Try.prog w 0 spare held fuel t [v] = some x) : ∃ l : List α, SL R all_ w v l ∧ ∀ x ∈ l, Q x := by
  rcases open_slice1 ht hc h with ⟨hv, _⟩ | ⟨a, len, cap, m, n, V, D, Pl, hv, _, hl, hm, hmm, _, hx⟩
  · obtain rfl : v = .slice none 0 0 := by simpa using hv
    exact ⟨[], SL.none_ _ _ _, fun x hx => by simp at hx⟩
  · obtain rfl : v = .slice (some a) len cap := by simpa using hv
    have hlm : len ≤ m := by rw [hmm]; split <;> omega
    obtain ⟨f, hf⟩ := choose_lt (α := α) (n := len) (p := fun i x => R all_ w (V i) x ∧ Q x) (fun i hi => hel n (V i) (D i, Pl i) (hx i (by omega)).2)
    refine ⟨(List.range len).map f, ⟨some a, cap, by simp, by simpa using hl, by simpa [maxLen] using hm, fun i x hi => ?_⟩, fun x hx => ?_⟩
    · rw [List.getElem?_map] at hi
      obtain ⟨j, hj, rfl⟩ := Option.map_eq_some_iff.1 hi
      obtain ⟨h1, h2⟩ := List.getElem?_eq_some_iff.1 hj
      have h3 : i < len := by simpa using h1
      have h4 : i = j := by simpa using h2
      subst h4
      exact ⟨a, V i, rfl, trivial, (hx i (by omega)).1, (hf i h3).1⟩
    · obtain ⟨i, hi, rfl⟩ := List.mem_map.1 hx
      exact (hf i (by simpa using hi)).2
theorem el_u32 (fuel : Nat) (v : Value) (y : DataW H × List MemPlace) (h : DataW.trod enc Try.prog w 0 spare held fuel 48 [v] = some y) : ∃ x : Nat, lit u32V all_ w v x ∧ x < 4294967296 := by
  obtain ⟨n, hv, _, hw⟩ := DataW.trod_int Try.underlying48 h
  obtain rfl : v = .int .u32 n := by simpa using hv
  have hb := bounds_u32 hw
  exact ⟨n.toNat, by show _ = Value.int .u32 _; rw [Int.toNat_of_nonneg hb.1], by omega⟩
theorem el_str (fuel : Nat) (v : Value) (y : DataW H × List MemPlace) (h : DataW.trod enc Try.prog w 0 spare held fuel 9 [v] = some y) : ∃ x : List UInt8, lit strV all_ w v x ∧ True := by
  obtain ⟨s, hv, _, hw⟩ := DataW.trod_string Try.underlying9 h
  obtain rfl : v = .string s := by simpa using hv
  exact ⟨s.data.toList, by show _ = Value.string _; simp, trivial⟩
theorem el_bool (fuel : Nat) (v : Value) (y : DataW H × List MemPlace) (h : DataW.trod enc Try.prog w 0 spare held fuel 4 [v] = some y) : ∃ x : Bool, lit Value.bool all_ w v x ∧ True := by
  obtain ⟨b, hv, _⟩ := DataW.trod_bool Try.underlying4 h
  obtain rfl : v = .bool b := by simpa using hv
  exact ⟨b, rfl, trivial⟩
theorem el_u8 (fuel : Nat) (v : Value) (y : DataW H × List MemPlace) (h : DataW.trod enc Try.prog w 0 spare held fuel 5 [v] = some y) : ∃ x : UInt8, lit byteV all_ w v x ∧ True := by
  obtain ⟨n, hv, _, hw⟩ := DataW.trod_int Try.underlying5 h
  obtain rfl : v = .int .u8 n := by simpa using hv
  have hb := bounds_u8 hw
  refine ⟨UInt8.ofNat n.toNat, ?_, trivial⟩
  show _ = Value.int .u8 _
  rw [UInt8.toNat_ofNat_of_lt' (by show n.toNat < 256; omega), Int.toNat_of_nonneg hb.1]
theorem el_strs (fuel : Nat) (v : Value) (y : DataW H × List MemPlace) (h : DataW.trod enc Try.prog w 0 spare held fuel 23 [v] = some y) : ∃ x : List (List UInt8), Strs all_ w v x ∧ True := by
  obtain ⟨l, hl, _⟩ := SL_of_trod (R := lit strV) (Q := fun _ => True) Try.underlying23 (by kernel_rfl) el_str h
  exact ⟨l, hl, trivial⟩

theorem cells_0 : Try.prog.cellsOf 3 = 1 := by kernel_rfl
theorem cells_1 : Try.prog.cellsOf 22 = 1 := by kernel_rfl
theorem cells_2 : Try.prog.cellsOf 23 = 1 := by kernel_rfl
theorem cells_3 : Try.prog.cellsOf 24 = 1 := by kernel_rfl
theorem cells_4 : Try.prog.cellsOf 25 = 1 := by kernel_rfl
theorem cells_5 : Try.prog.cellsOf 26 = 1 := by kernel_rfl
set_option maxRecDepth 100000 in
theorem cells_msg : Try.prog.cellsOf 28 = 6 := by kernel_rfl
set_option maxRecDepth 100000 in
/-- A message that came in. -/
theorem msg_of_trod {r : Reach} {b0 : Nat} {v : Value} {d : DataW H} {p : List MemPlace} (hv : Value.okWide Try.prog w r b0 28 v) (h : DataW.Trod enc Try.prog w 0 spare held 28 v d p) :
    ∃ M : Msg, MsgS all_ w v M ∧ (∀ n ∈ M.ints, n < 4294967296) ∧ -9223372036854775808 ≤ M.number ∧ M.number ≤ 9223372036854775807 := by
  obtain ⟨cs, rfl, hsz⟩ := okWide_struct Try.underlying28 hv
  have hC := cells_msg
  obtain ⟨l⟩ := cs
  obtain ⟨c0, c1, c2, c3, c4, c5, rfl⟩ : ∃ c0 c1 c2 c3 c4 c5, l = [c0, c1, c2, c3, c4, c5] := by
    have : l.length = 6 := by simpa [hC] using hsz
    match l, this with
    | [c0, c1, c2, c3, c4, c5], _ => exact ⟨_, _, _, _, _, _, rfl⟩
  obtain ⟨fuel, hf⟩ := h
  obtain ⟨xs, n, _, _, _, hlen, hall⟩ := DataW.trod_struct Try.underlying28 hf
  have hcs : (Value.agg #[c0, c1, c2, c3, c4, c5]).cells.toList = [c0, c1, c2, c3, c4, c5] := by simp [Value.cells]
  rw [hcs] at hall
  have z0 := cells_0
  obtain ⟨y0, k0⟩ : ∃ y, DataW.trod enc Try.prog w 0 spare held n 3 [c0] = some y := by
    have h0 : DataW.trod enc Try.prog w 0 spare held n 3 (([c0, c1, c2, c3, c4, c5].drop 0).take (Try.prog.cellsOf 3)) = xs[0]? := hall 0 _ rfl
    rw [z0] at h0
    exact ⟨_, h0.trans (List.getElem?_eq_getElem (by rw [hlen]; decide))⟩
  have z1 := cells_1
  obtain ⟨y1, k1⟩ : ∃ y, DataW.trod enc Try.prog w 0 spare held n 22 [c1] = some y := by
    have h0 : DataW.trod enc Try.prog w 0 spare held n 22 (([c0, c1, c2, c3, c4, c5].drop 1).take (Try.prog.cellsOf 22)) = xs[1]? := hall 1 _ rfl
    rw [z1] at h0
    exact ⟨_, h0.trans (List.getElem?_eq_getElem (by rw [hlen]; decide))⟩
  have z2 := cells_2
  obtain ⟨y2, k2⟩ : ∃ y, DataW.trod enc Try.prog w 0 spare held n 23 [c2] = some y := by
    have h0 : DataW.trod enc Try.prog w 0 spare held n 23 (([c0, c1, c2, c3, c4, c5].drop 2).take (Try.prog.cellsOf 23)) = xs[2]? := hall 2 _ rfl
    rw [z2] at h0
    exact ⟨_, h0.trans (List.getElem?_eq_getElem (by rw [hlen]; decide))⟩
  have z3 := cells_3
  obtain ⟨y3, k3⟩ : ∃ y, DataW.trod enc Try.prog w 0 spare held n 24 [c3] = some y := by
    have h0 : DataW.trod enc Try.prog w 0 spare held n 24 (([c0, c1, c2, c3, c4, c5].drop 3).take (Try.prog.cellsOf 24)) = xs[3]? := hall 3 _ rfl
    rw [z3] at h0
    exact ⟨_, h0.trans (List.getElem?_eq_getElem (by rw [hlen]; decide))⟩
  have z4 := cells_4
  obtain ⟨y4, k4⟩ : ∃ y, DataW.trod enc Try.prog w 0 spare held n 25 [c4] = some y := by
    have h0 : DataW.trod enc Try.prog w 0 spare held n 25 (([c0, c1, c2, c3, c4, c5].drop 4).take (Try.prog.cellsOf 25)) = xs[4]? := hall 4 _ rfl
    rw [z4] at h0
    exact ⟨_, h0.trans (List.getElem?_eq_getElem (by rw [hlen]; decide))⟩
  have z5 := cells_5
  obtain ⟨y5, k5⟩ : ∃ y, DataW.trod enc Try.prog w 0 spare held n 26 [c5] = some y := by
    have h0 : DataW.trod enc Try.prog w 0 spare held n 26 (([c0, c1, c2, c3, c4, c5].drop 5).take (Try.prog.cellsOf 26)) = xs[5]? := hall 5 _ rfl
    rw [z5] at h0
    exact ⟨_, h0.trans (List.getElem?_eq_getElem (by rw [hlen]; decide))⟩
  obtain ⟨num, hn, _, hw⟩ := DataW.trod_int Try.underlying3 k0
  obtain rfl : c0 = .int .i64 num := by simpa using hn
  have hb := bounds_i64 hw
  obtain ⟨lI, hI, qI⟩ := SL_of_trod (R := lit u32V) (Q := fun n => n < 4294967296) Try.underlying22 (by kernel_rfl) el_u32 k1
  obtain ⟨lS, hS, _⟩ := SL_of_trod (R := lit strV) (Q := fun _ => True) Try.underlying23 (by kernel_rfl) el_str k2
  obtain ⟨lN, hN, _⟩ := SL_of_trod (R := Strs) (Q := fun _ => True) Try.underlying24 (by kernel_rfl) el_strs k3
  obtain ⟨lT, hT, _⟩ := SL_of_trod (R := lit Value.bool) (Q := fun _ => True) Try.underlying25 (by kernel_rfl) el_bool k4
  obtain ⟨lB, hB, _⟩ := SL_of_trod (R := lit byteV) (Q := fun _ => True) Try.underlying26 (by kernel_rfl) el_u8 k5
  exact ⟨⟨num, lI, lS, lN, lT, lB⟩, ⟨c1, c2, c3, c4, c5, rfl, hI, hS, hN, hT, hB⟩, qI, hb.1, hb.2⟩

end

end Go.Proofs.Ytnlkgaobbobakaa
