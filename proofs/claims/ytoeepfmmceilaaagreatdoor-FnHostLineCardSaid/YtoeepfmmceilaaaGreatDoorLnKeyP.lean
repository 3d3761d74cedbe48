/- Keys as plain data; laws.zzFits1, laws.keyFits. -/
import Derived.Test.YtoeepfmmceilaaaGreatDoorLnStr
import Derived.Test.YtoeepfmmceilaaaGreatDoorLnKeyB
set_option linter.unusedVariables false
set_option linter.unusedSimpArgs false
namespace Go.Proofs.YtoeepfmmceilaaaGreatDoor
open Go.RowKit

/-- A key: its kind, its point, its application, its exponent and its modulus. -/
structure KeyP where
  kind : Int
  pt : List UInt8
  app : List UInt8
  e : List UInt8
  n : List UInt8
/-- A key as a value. -/
def KeyAt (ok : Nat → Prop) (w : World) (v : Value) (K : KeyP) : Prop :=
  ∃ (A0 : Option Addr) (c0 : Nat) (A1 : Option Addr) (c1 : Nat) (A2 : Option Addr) (c2 : Nat), v = .agg #[.int .i64 K.kind, .slice A0 K.pt.length c0, .string ⟨K.app.toArray⟩, .slice A1 K.e.length c1, .slice A2 K.n.length c2] ∧
    Hid (K.pt.length ≤ c0 ∧ K.e.length ≤ c1 ∧ K.n.length ≤ c2 ∧ c0 ≤ 9223372036854775807 ∧ c1 ≤ 9223372036854775807 ∧ c2 ≤ 9223372036854775807) ∧ Hid (RR (lit byteV) ok w A0 K.pt) ∧ Hid (RR (lit byteV) ok w A1 K.e) ∧ Hid (RR (lit byteV) ok w A2 K.n)
theorem KeyAt.keep {ok : Nat → Prop} {w w' : World} {v : Value} {K : KeyP} (h : KeyAt ok w v K) (hk : Keep ok w w') : KeyAt ok w' v K := by
  obtain ⟨A0, c0, A1, c1, A2, c2, h1, h2, h3, h4, h5⟩ := h
  exact ⟨A0, c0, A1, c1, A2, c2, h1, h2, h3.out.keep (lit_steady _) hk, h4.out.keep (lit_steady _) hk, h5.out.keep (lit_steady _) hk⟩
/-- A key that is asked. -/
def FitK (K : KeyP) : Prop :=
  (K.kind = 0 ∧ K.pt.length = 32 ∧ K.app = [] ∧ K.e = [] ∧ K.n = []) ∨
  (K.kind = 1 ∧ K.pt = [] ∧ K.app = [] ∧ (∃ x l : UInt8, K.e[0]? = some x ∧ K.e[K.e.length - 1]? = some l ∧ x ≠ 0 ∧ l.toNat % 2 = 1 ∧ (1 < K.e.length ∨ 2 < x.toNat)) ∧ K.e.length ≤ 3 ∧ 128 ≤ K.n.length ∧ K.n.length ≤ 512 ∧ (∃ y : UInt8, K.n[0]? = some y ∧ 127 < y.toNat)) ∨
  (K.kind = 2 ∧ K.pt.length = 32 ∧ K.app.length ≤ 50 ∧ K.e = [] ∧ K.n = [])

/-- How keyFits ends. -/
def FitEnd (w : World) (K : KeyP) (e : Ending) (w' : World) : Prop := (∃ b : Bool, e = .returned (.bool b) ∧ (b = true → FitK K)) ∧ Below w.heap.size w w'
set_option maxRecDepth 100000 in
set_option maxHeartbeats 400000 in
theorem zzFits1_walk (ok : Nat → Prop) (v : Value) (K : KeyP) (w : World) (hk : KeyAt ok w v K) : Calls Tryz.prog 21 #[v] w fun e w' => (∃ b : Bool, e = .returned (.bool b) ∧ (b = true → K.e.length ≤ 2147483647 ∧ K.n.length ≤ 2147483647)) ∧ Below w.heap.size w w' := by
  obtain ⟨A0, c0, A1, c1, A2, c2, rfl, h1, h2, h3, h4⟩ := hk
  have z := size_list K.app
  clear h1 h2 h3 h4
  go_enter Tryz.func21, Tryz.ntmps21
  go_wp2_with fail
  all_goals
    go_ret
    refine ⟨⟨_, rfl, fun hb => ?_⟩, (Below.refl _ _).alloc (Nat.le_refl _) _⟩
    first
      | (cases hb; done)
      | omega

set_option maxRecDepth 100000 in
set_option maxHeartbeats 1600000 in
theorem keyFits_ed (ok : Nat → Prop) (v : Value) (K : KeyP) (w : World) (h0 : K.kind ≠ 1) (he : K.e.length ≤ 2147483647) (hn : K.n.length ≤ 2147483647) (hk : KeyAt ok w v K) : Calls Tryz.prog 22 #[v] w (FitEnd w K) := by
  obtain ⟨A0, c0, A1, c1, A2, c2, rfl, h1, h2, h3, h4⟩ := hk
  have z := size_list K.app
  have hw : wrap64 ((K.e.length : Int) + (K.n.length : Int)) = (K.e.length : Int) + (K.n.length : Int) := by unfold wrap64; omega
  have HE := Lib.hid he
  have HN := Lib.hid hn
  clear h1 h2 h3 h4 he hn
  by_cases hk0 : K.kind = 0
  · rw [hk0]
    go_enter Tryz.func22, Tryz.ntmps22
    go_wp2_with fail
    all_goals
      go_ret
      unfold FitEnd
      refine ⟨⟨_, rfl, fun hb => ?_⟩, (Below.refl _ _).alloc (Nat.le_refl _) _⟩
      first
        | (exact absurd hb (by decide))
        | (refine Or.inl ⟨hk0, by omega, by assumption, ?_, ?_⟩ <;> (apply List.eq_nil_of_length_eq_zero; have := HE.out; have := HN.out; simp at hb; omega))
  · by_cases hk2 : K.kind = 2
    · rw [hk2]
      go_enter Tryz.func22, Tryz.ntmps22
      go_wp2_with fail
      all_goals
        go_ret
        unfold FitEnd
        refine ⟨⟨_, rfl, fun hb => ?_⟩, (Below.refl _ _).alloc (Nat.le_refl _) _⟩
        first
          | (exact absurd hb (by decide))
          | (refine Or.inr (Or.inr ⟨hk2, by omega, by omega, ?_, ?_⟩) <;> (apply List.eq_nil_of_length_eq_zero; have := HE.out; have := HN.out; simp at hb; omega))
    · have e0 : (K.kind == 0) = false := by rw [beq_eq_false_iff_ne]; exact hk0
      have e1 : (K.kind == 1) = false := by rw [beq_eq_false_iff_ne]; exact h0
      have e2 : (K.kind == 2) = false := by rw [beq_eq_false_iff_ne]; exact hk2
      go_enter Tryz.func22, Tryz.ntmps22
      go_wp2_with fail
      all_goals
        go_ret
        unfold FitEnd
        refine ⟨⟨_, rfl, fun hb => ?_⟩, (Below.refl _ _).alloc (Nat.le_refl _) _⟩
        cases hb

end Go.Proofs.YtoeepfmmceilaaaGreatDoor
