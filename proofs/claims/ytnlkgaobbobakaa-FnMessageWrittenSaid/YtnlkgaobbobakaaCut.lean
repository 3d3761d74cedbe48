/- Cutting at commas by searching for the next one: plain lemmas. -/
import Derived.Test.YtnlkgaobbobakaaPure
set_option linter.unusedVariables false
set_option linter.unusedSimpArgs false
namespace Go.Proofs.Ytnlkgaobbobakaa

theorem splitC_none {s : List UInt8} : ∀ (cur : List UInt8), idxP [44] s = none → splitC cur s = [cur ++ s] := by
  induction s with
  | nil => intro cur _; simp [splitC]
  | cons c r ih =>
    intro cur h
    rw [idxP] at h
    split at h
    · cases h
    · rename_i hp
      have hc : c ≠ 44 := by rintro rfl; exact hp (by simp)
      rw [splitC, if_neg hc, ih _ (by simpa using h)]
      simp
theorem splitC_some {s : List UInt8} : ∀ (cur : List UInt8) {i : Nat}, idxP [44] s = some i → splitC cur s = (cur ++ s.take i) :: splitC [] (s.drop (i + 1)) ∧ i + 1 ≤ s.length := by
  induction s with
  | nil => intro cur i h; simp [idxP] at h
  | cons c r ih =>
    intro cur i h
    rw [idxP] at h
    split at h
    · rename_i hp
      have hc : c = 44 := by
        have h1 := List.isPrefixOf_iff_prefix.1 hp
        exact (List.cons_prefix_cons.1 h1).1.symm
      injection h with h
      subst h hc
      simp [splitC]
    · rename_i hp
      have hc : c ≠ 44 := by rintro rfl; exact hp (by simp)
      obtain ⟨j, hj, rfl⟩ := Option.map_eq_some_iff.1 h
      obtain ⟨h1, h2⟩ := ih (cur ++ [c]) hj
      rw [splitC, if_neg hc, h1]
      simp
      omega

theorem splitC_length : ∀ (cur s : List UInt8), (splitC cur s).length ≤ s.length + 1
  | cur, [] => by simp [splitC]
  | cur, c :: r => by
    rw [splitC]
    split
    · have := splitC_length [] r; simp; omega
    · have := splitC_length (cur ++ [c]) r; simp; omega

end Go.Proofs.Ytnlkgaobbobakaa
