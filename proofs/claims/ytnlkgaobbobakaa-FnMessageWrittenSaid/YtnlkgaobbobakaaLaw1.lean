/- Small plain lemmas for laws.FnMessageRead: how long a message's bytes are, the reader's words, a row of one's own that is cut or written. -/
import Derived.Test.YtnlkgaobbobakaaImLaw
import Derived.Test.YtnlkgaobbobakaaFits2
set_option linter.unusedVariables false
set_option linter.unusedSimpArgs false
namespace Go.Proofs.Ytnlkgaobbobakaa
open Go.RowKit

structure Small (L : Msg) : Prop where
  str : ∀ s ∈ L.strings, s.length ≤ 200
  name : ∀ l ∈ L.names, l.length ≤ 10 ∧ ∀ s ∈ l, s.length ≤ 60
  bytes : L.bytes.length ≤ 500
theorem Fit.small {M : Msg} (h : Fit M) : Small M := ⟨h.str, fun l hl => ⟨(h.name l hl).1, fun s hs => ((h.name l hl).2 s hs).1⟩, h.bytes⟩
theorem strP_length (l : List UInt8) : (strP l).length = l.length + 4 := by simp [strP, be4]
theorem mbStep_len {c : UInt8} {L : Msg} {out : List UInt8} {rest : Bool} {q : Msg × List UInt8 × Bool} (hL : Small L) (h : mbStep c L out rest = some q) : Small q.1 ∧ q.2.1.length ≤ out.length + 1000 := by
  unfold mbStep at h
  split at h
  · split at h
    · cases h
    · injection h with h; subst h
      exact ⟨⟨hL.str, hL.name, hL.bytes⟩, by simp [be4]⟩
  split at h
  · split at h
    · cases h
    · rename_i x r hs
      injection h with h; subst h
      have h1 := hL.str x (by rw [hs]; exact List.mem_cons_self ..)
      refine ⟨⟨fun s hm => hL.str s (by rw [hs]; exact List.mem_cons_of_mem _ hm), hL.name, hL.bytes⟩, ?_⟩
      simp only [List.length_append, strP_length]; omega
  split at h
  · split at h
    · cases h
    · rename_i x r hs
      injection h with h; subst h
      have h1 := hL.name x (by rw [hs]; exact List.mem_cons_self ..)
      have h2 := commas_le x 60 h1.2
      refine ⟨⟨hL.str, fun s hm => hL.name s (by rw [hs]; exact List.mem_cons_of_mem _ hm), hL.bytes⟩, ?_⟩
      simp only [List.length_append, strP_length]
      have := Nat.mul_le_mul_right 61 h1.1
      omega
  split at h
  · split at h
    · cases h
    · injection h with h; subst h
      exact ⟨⟨hL.str, hL.name, hL.bytes⟩, by simp⟩
  split at h
  · split at h
    · injection h with h; subst h
      exact ⟨hL, by have := hL.bytes; simp only [List.length_append]; omega⟩
    · cases h
  split at h
  · injection h with h; subst h
    exact ⟨hL, by have := hL.bytes; simp only [List.length_append]; omega⟩
  · cases h
theorem mbP_len : ∀ (form : List UInt8) (L : Msg) (out : List UInt8) (rest : Bool) {q : Msg × List UInt8 × Bool}, Small L → mbP form L out rest = some q → q.2.1.length ≤ out.length + form.length * 1000
  | [], L, out, rest, q, hL, h => by simp only [mbP, Option.some.injEq] at h; subst h; simp
  | c :: r, L, out, rest, q, hL, h => by
    simp only [mbP] at h
    split at h
    · cases h
    · rename_i p hp
      obtain ⟨h1, h2⟩ := mbStep_len hL hp
      have := mbP_len r p.1 p.2.1 p.2.2 h1 h
      simp only [List.length_cons, Nat.add_mul]
      omega
theorem msgBytes_len {M : Msg} (h : Fit M) : (msgBytesP M).1.length ≤ 100001 := by
  have hf : ((shapeP M.number).getD []).length ≤ 100 := by
    cases hs : shapeP M.number with
    | none => simp
    | some f => exact (shape_small hs).2
  unfold msgBytesP
  split
  · simp
  · rename_i L out rest hq
    have := mbP_len _ _ _ _ h.small hq
    simp only [List.length_singleton] at this
    show out.length ≤ _
    have h3 := Nat.mul_le_mul_right 1000 hf
    have h4 : out.length ≤ 1 + ((shapeP M.number).getD []).length * 1000 := this
    omega

theorem failP_le {st n : Nat} (h1 : st ≤ 2) (h2 : n ≤ 2) : failP st n ≤ 2 := by unfold failP; split <;> assumption
theorem takeP_st {xs : List UInt8} {st n : Nat} (h : st ≤ 2) : (takeP xs st n).2.2 ≤ 2 := by
  unfold takeP
  split
  · exact Nat.zero_le _
  · exact failP_le h (by decide)
theorem bytesP_st {xs : List UInt8} {st : Nat} (h : st ≤ 2) : (bytesP xs st).2.2 ≤ 2 := by
  unfold bytesP
  split
  · exact Nat.zero_le _
  · exact failP_le (takeP_st h) (by decide)
theorem nameSt_st {b : List UInt8} {st : Nat} (h : st ≤ 2) : nameSt b st ≤ 2 := by
  unfold nameSt
  split
  · exact failP_le h (by decide)
  · exact h
theorem stepP_st (c : UInt8) (M : Msg) (xs : List UInt8) {st : Nat} (h : st ≤ 2) : (stepP c M xs st).2.2 ≤ 2 := by
  have h4 : (numP xs st).2.2 ≤ 2 := takeP_st h
  have h1 := takeP_st (xs := xs) (n := 1) h
  have h16 := takeP_st (xs := xs) (n := 16) h
  have hb := bytesP_st (xs := xs) h
  have hn := nameSt_st (b := (bytesP xs st).1) hb
  unfold stepP
  repeat' split
  all_goals first | exact h4 | exact h1 | exact h16 | exact hb | exact hn | exact h
theorem runP_st (l : List UInt8) : ∀ (M : Msg) (xs : List UInt8) {st : Nat}, st ≤ 2 → (runP l M xs st).2.2 ≤ 2 := by
  induction l with
  | nil => intro M xs st h; exact h
  | cons c r ih => intro M xs st h; rw [runP]; exact ih _ _ (stepP_st c M xs h)
theorem readP_st (l : List UInt8) : (readP l).2 ≤ 2 := by
  cases l with
  | nil => exact Nat.le_succ 1
  | cons x r =>
    cases hf : shapeP x.toNat with
    | none => unfold readP; simp only [hf]; exact Nat.le_refl _
    | some form =>
      rw [readP_eq hf]
      have := runP_st form (Msg.none_ x.toNat) r (Nat.zero_le 2)
      simp only [endP]
      split
      · split <;> omega
      · exact this
theorem shape_letters_one {n : Int} {form : List UInt8} (h : shapeP n = some form) : oneL form = true := by
  unfold shapeP at h
  by_cases h1 : n = 1
  · rw [if_pos h1] at h; injection h with h; subst h; decide
  rw [if_neg h1] at h
  by_cases h5 : n = 5
  · rw [if_pos h5] at h; injection h with h; subst h; decide
  rw [if_neg h5] at h
  by_cases h6 : n = 6
  · rw [if_pos h6] at h; injection h with h; subst h; decide
  rw [if_neg h6] at h
  by_cases h20 : n = 20
  · rw [if_pos h20] at h; injection h with h; subst h; decide
  rw [if_neg h20] at h
  by_cases h50 : n = 50
  · rw [if_pos h50] at h; injection h with h; subst h; decide
  rw [if_neg h50] at h
  by_cases h51 : n = 51
  · rw [if_pos h51] at h; injection h with h; subst h; decide
  rw [if_neg h51] at h
  by_cases h52 : n = 52
  · rw [if_pos h52] at h; injection h with h; subst h; decide
  rw [if_neg h52] at h
  by_cases h80 : n = 80
  · rw [if_pos h80] at h; injection h with h; subst h; decide
  rw [if_neg h80] at h
  by_cases h81 : n = 81
  · rw [if_pos h81] at h; injection h with h; subst h; decide
  rw [if_neg h81] at h
  by_cases h82 : n = 82
  · rw [if_pos h82] at h; injection h with h; subst h; decide
  rw [if_neg h82] at h
  by_cases h90 : n = 90
  · rw [if_pos h90] at h; injection h with h; subst h; decide
  rw [if_neg h90] at h
  by_cases h91 : n = 91
  · rw [if_pos h91] at h; injection h with h; subst h; decide
  rw [if_neg h91] at h
  by_cases h92 : n = 92
  · rw [if_pos h92] at h; injection h with h; subst h; decide
  rw [if_neg h92] at h
  by_cases h93 : n = 93
  · rw [if_pos h93] at h; injection h with h; subst h; decide
  rw [if_neg h93] at h
  by_cases h96 : n = 96
  · rw [if_pos h96] at h; injection h with h; subst h; decide
  rw [if_neg h96] at h
  by_cases h97 : n = 97
  · rw [if_pos h97] at h; injection h with h; subst h; decide
  rw [if_neg h97] at h
  by_cases h98 : n = 98
  · rw [if_pos h98] at h; injection h with h; subst h; decide
  rw [if_neg h98] at h
  by_cases h99 : n = 99
  · rw [if_pos h99] at h; injection h with h; subst h; decide
  rw [if_neg h99] at h
  by_cases h100 : n = 100
  · rw [if_pos h100] at h; injection h with h; subst h; decide
  rw [if_neg h100] at h
  cases h

theorem own_cut {w : World} {B : Nat} {e : TypeId} {A : Option Addr} {n c : Nat} {xs : List Value} (h : w.ownsRow B e 1 (.slice A n c) n xs) {k : Nat} (hk : k ≤ n) : w.ownsRow B e 1 (.slice A k c) k (xs.take k) := by
  have hl := h.1
  refine ⟨by rw [List.length_take, hl]; omega, ?_⟩
  rcases h.2 with ⟨hv, rfl⟩ | ⟨g, cap, cur, hv, h1, h2, h3, h4, h5, h6⟩
  · injection hv with e1 e2 e3
    obtain rfl : k = 0 := by omega
    subst e1 e3
    exact .inl ⟨rfl, rfl⟩
  · injection hv with e1 e2 e3
    subst e1 e3
    exact .inr ⟨g, c, cur, rfl, h1, h2, by omega, h4, h5, by rw [← h6, List.take_take]; congr 1; omega⟩
theorem own_set {w : World} {B : Nat} {e : TypeId} {g n c : Nat} {xs : List Value} (h : w.ownsRow B e 1 (.slice (some ⟨g, 0, none⟩) n c) n xs) {k : Nat} (hk : k < n) (u : Value) : (w.setCell ⟨g, k, none⟩ u).ownsRow B e 1 (.slice (some ⟨g, 0, none⟩) n c) n (xs.set k u) := by
  have hl := h.1
  refine ⟨by rw [List.length_set]; exact hl, ?_⟩
  rcases h.2 with ⟨hv, _⟩ | ⟨g', cap, cur, hv, h1, h2, h3, h4, h5, h6⟩
  · injection hv with e1; cases e1
  · injection hv with e1 e2 e3
    injection e1 with e1
    injection e1 with e1
    subst e1 e3
    refine .inr ⟨g, c, cur.setIfInBounds k u, rfl, h1, Blk.set_ h2 k u, h3, h4, by simpa using h5, ?_⟩
    rw [Array.toList_setIfInBounds, ← h6, List.take_set]
theorem own_base {w : World} {B B' : Nat} {e : TypeId} {v : Value} {n : Nat} {xs : List Value} (h : w.ownsRow B e 1 v n xs) (hb : B' ≤ B) : w.ownsRow B' e 1 v n xs := by
  refine ⟨h.1, ?_⟩
  rcases h.2 with h2 | ⟨g, cap, cur, hv, h1, rest⟩
  · exact .inl h2
  · exact .inr ⟨g, cap, cur, hv, by omega, rest⟩
theorem slice_to {P : Program} (t e : TypeId) {i : TypeInfo} (ht : P.underlying t = some (.slice e)) (hi : P.info? e = some i) (hsz : i.size = 1) (A : Option Addr) (n c m : Nat) (hm : m ≤ n) (hc : n ≤ c) (W : World) :
    (Instr.slice t (.slice A n c) none (some (.int .i64 (m : Int))) none).run P W = .ok (.slice A m c) W := by
  have hel : P.elem t = e := by simp [Program.elem, ht]
  have hu : P.underlying t = some (.slice (P.elem t)) := by rw [hel]; exact ht
  rw [run_slice_h W t A n c hu .i64 (m : Int) (Int.natCast_nonneg _) (by omega), hel]
  simp only [sizeOf, typeInfo]
  cases A <;> simp [hi, hsz, sliced, Result.andThen, Addr.add]
theorem cell_next {a : Addr} (h : a.spot = none) : (⟨a.block, a.off + 1, none⟩ : Addr) = a.add 1 := by
  obtain ⟨b, o, s⟩ := a
  simp only at h
  subst h
  simp [Addr.add]
theorem own_cell_at {w : World} {B : Nat} {e : TypeId} {g n c : Nat} {xs : List Value} (h : w.ownsRow B e 1 (.slice (some ⟨g, 0, none⟩) n c) n xs) {j : Nat} (hj : j < n) : ∃ old, w.cell? ⟨g, j, none⟩ = some old := by
  have hl := h.1
  have := h.cells (g := g) rfl j xs[j] (List.getElem?_eq_getElem (by omega))
  rw [add_mk, Nat.zero_add] at this
  exact ⟨_, this⟩
theorem own_unfrozen {w : World} {B : Nat} {e : TypeId} {g n c : Nat} {xs : List Value} (h : w.ownsRow B e 1 (.slice (some ⟨g, 0, none⟩) n c) n xs) (j : Nat) : w.frozen? ⟨g, j, none⟩ = false := by
  rcases h.2 with ⟨hv, _⟩ | ⟨g', cap, cur, hv, h1, h2, _⟩
  · injection hv with e1; cases e1
  · injection hv with e1
    injection e1 with e1
    injection e1 with e1
    subst e1
    exact Blk.frozen h2 j
theorem set_map_byte (l : List UInt8) (k : Nat) (y : UInt8) : (l.map byteV).set k (byteV y) = (l.set k y).map byteV := by rw [List.map_set]

end Go.Proofs.Ytnlkgaobbobakaa
