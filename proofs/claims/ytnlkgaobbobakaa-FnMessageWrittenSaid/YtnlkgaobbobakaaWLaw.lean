/- Writing a message, field for field, as the reference writes it. No program stands here. -/
import Derived.Test.YtnlkgaobbobakaaWMar
import Derived.Test.YtnlkgaobbobakaaLaw1
set_option linter.unusedVariables false
set_option linter.unusedSimpArgs false
namespace Go.Proofs.Ytnlkgaobbobakaa

/-- A field is taken off a message. -/
def takeV (c : UInt8) (L : Msg) : Option (Fv × Msg) :=
  if c = 110 then (match L.ints with | [] => none | x :: r => some (.n x, { L with ints := r }))
  else if c = 115 then (match L.strings with | [] => none | x :: r => some (.s x, { L with strings := r }))
  else if c = 108 then (match L.names with | [] => none | x :: r => some (.l x, { L with names := r }))
  else if c = 116 then (match L.truths with | [] => none | x :: r => some (.t x, { L with truths := r }))
  else if c = 99 then (if L.bytes.length = 16 then some (.c L.bytes, L) else none)
  else if c = 114 then some (.r L.bytes, L)
  else none
def takeAll : List UInt8 → Msg → Option (List Fv × Msg)
  | [], L => some ([], L)
  | c :: r, L => match takeV c L with
    | none => none
    | some q => (takeAll r q.2).map fun p => (q.1 :: p.1, p.2)
theorem mbStep_take {c : UInt8} {L : Msg} {out : List UInt8} {rest : Bool} {q : Msg × List UInt8 × Bool} (h : mbStep c L out rest = some q) : ∃ fv L', takeV c L = some (fv, L') ∧ q.1 = L' ∧ q.2.1 = out ++ mshV fv := by
  unfold mbStep at h
  unfold takeV
  split at h
  · rename_i hc
    split at h
    · cases h
    · rename_i x r hs
      injection h with h; subst h
      exact ⟨_, _, by rw [if_pos hc, hs], rfl, rfl⟩
  rename_i h1
  split at h
  · rename_i hc
    split at h
    · cases h
    · rename_i x r hs
      injection h with h; subst h
      exact ⟨_, _, by rw [if_neg h1, if_pos hc, hs], rfl, rfl⟩
  rename_i h2
  split at h
  · rename_i hc
    split at h
    · cases h
    · rename_i x r hs
      injection h with h; subst h
      exact ⟨_, _, by rw [if_neg h1, if_neg h2, if_pos hc, hs], rfl, rfl⟩
  rename_i h3
  split at h
  · rename_i hc
    split at h
    · cases h
    · rename_i x r hs
      injection h with h; subst h
      exact ⟨_, _, by rw [if_neg h1, if_neg h2, if_neg h3, if_pos hc, hs], rfl, rfl⟩
  rename_i h4
  split at h
  · rename_i hc
    split at h
    · rename_i hl
      injection h with h; subst h
      exact ⟨_, _, by rw [if_neg h1, if_neg h2, if_neg h3, if_neg h4, if_pos hc, if_pos hl], rfl, rfl⟩
    · cases h
  rename_i h5
  split at h
  · rename_i hc
    injection h with h; subst h
    exact ⟨_, _, by rw [if_neg h1, if_neg h2, if_neg h3, if_neg h4, if_neg h5, if_pos hc], rfl, rfl⟩
  · cases h
theorem mbP_take : ∀ {form : List UInt8} {L : Msg} {out : List UInt8} {rest : Bool} {q : Msg × List UInt8 × Bool}, mbP form L out rest = some q → ∃ vals L', takeAll form L = some (vals, L') ∧ q.1 = L' ∧ q.2.1 = out ++ mshAll vals
  | [], L, out, rest, q, h => by
    simp only [mbP, Option.some.injEq] at h
    subst h
    exact ⟨[], L, rfl, rfl, by simp [mshAll]⟩
  | c :: r, L, out, rest, q, h => by
    simp only [mbP] at h
    split at h
    · cases h
    · rename_i p hp
      obtain ⟨fv, L', h1, h2, h3⟩ := mbStep_take hp
      obtain ⟨vals, L2, g1, g2, g3⟩ := mbP_take h
      rw [h2] at g1
      rw [h3] at g3
      refine ⟨fv :: vals, L2, by simp only [takeAll, h1, g1]; rfl, g2, by rw [g3]; simp [mshAll]⟩
theorem takeAll_length : ∀ {form : List UInt8} {L L' : Msg} {vals : List Fv}, takeAll form L = some (vals, L') → vals.length = form.length
  | [], L, L', vals, h => by simp only [takeAll, Option.some.injEq, Prod.mk.injEq] at h; rw [← h.1]; rfl
  | c :: r, L, L', vals, h => by
    simp only [takeAll] at h
    split at h
    · cases h
    · obtain ⟨p, hp, h⟩ := Option.map_eq_some_iff.1 h
      injection h with h1 h2
      obtain ⟨vs, ws⟩ := p
      have := takeAll_length hp
      rw [← h1]
      simp [this]
theorem takeV_ok {c : UInt8} {L L' : Msg} {fv : Fv} (hs : Small L) (hu : ∀ n ∈ L.ints, n < 4294967296) (h : takeV c L = some (fv, L')) : FvOk fv ∧ Small L' ∧ (∀ n ∈ L'.ints, n < 4294967296) := by
  unfold takeV at h
  split at h
  · split at h
    · cases h
    · rename_i x r hx
      injection h with h; injection h with h1 h2; subst h1 h2
      exact ⟨hu x (by rw [hx]; exact List.mem_cons_self ..), ⟨hs.str, hs.name, hs.bytes⟩, fun n hn => hu n (by rw [hx]; exact List.mem_cons_of_mem _ hn)⟩
  split at h
  · split at h
    · cases h
    · rename_i x r hx
      injection h with h; injection h with h1 h2; subst h1 h2
      exact ⟨hs.str x (by rw [hx]; exact List.mem_cons_self ..), ⟨fun s hm => hs.str s (by rw [hx]; exact List.mem_cons_of_mem _ hm), hs.name, hs.bytes⟩, hu⟩
  split at h
  · split at h
    · cases h
    · rename_i x r hx
      injection h with h; injection h with h1 h2; subst h1 h2
      exact ⟨hs.name x (by rw [hx]; exact List.mem_cons_self ..), ⟨hs.str, fun s hm => hs.name s (by rw [hx]; exact List.mem_cons_of_mem _ hm), hs.bytes⟩, hu⟩
  split at h
  · split at h
    · cases h
    · rename_i x r hx
      injection h with h; injection h with h1 h2; subst h1 h2
      exact ⟨trivial, ⟨hs.str, hs.name, hs.bytes⟩, hu⟩
  split at h
  · split at h
    · rename_i hl
      injection h with h; injection h with h1 h2; subst h1 h2
      exact ⟨Nat.le_of_eq hl, hs, hu⟩
    · cases h
  split at h
  · injection h with h; injection h with h1 h2; subst h1 h2
    exact ⟨hs.bytes, hs, hu⟩
  · cases h
theorem takeAll_ok : ∀ {form : List UInt8} {L L' : Msg} {vals : List Fv}, Small L → (∀ n ∈ L.ints, n < 4294967296) → takeAll form L = some (vals, L') → ∀ fv ∈ vals, FvOk fv
  | [], L, L', vals, hs, hu, h => by simp only [takeAll, Option.some.injEq, Prod.mk.injEq] at h; rw [← h.1]; simp
  | c :: r, L, L', vals, hs, hu, h => by
    simp only [takeAll] at h
    split at h
    · cases h
    · rename_i q hq
      obtain ⟨p, hp, h⟩ := Option.map_eq_some_iff.1 h
      injection h with h1 h2
      obtain ⟨fv, L2⟩ := q
      obtain ⟨vs, ws⟩ := p
      obtain ⟨k1, k2, k3⟩ := takeV_ok hs hu hq
      rw [← h1]
      intro f hf
      rcases List.mem_cons.1 hf with rfl | hf
      · exact k1
      · exact takeAll_ok k2 k3 hp f hf

/-- What is left of a message after so many of its parts. -/
def cutM (M : Msg) (i s n t : Nat) : Msg := { M with ints := M.ints.drop i, strings := M.strings.drop s, names := M.names.drop n, truths := M.truths.drop t }
theorem cutM_zero (M : Msg) : cutM M 0 0 0 0 = M := rfl
/-- One field: which part it takes. -/
theorem takeV_cut {c : UInt8} {M L' : Msg} {i s n t : Nat} {fv : Fv} (h : takeV c (cutM M i s n t) = some (fv, L')) :
    (c = 110 ∧ ∃ x, M.ints[i]? = some x ∧ fv = .n x ∧ L' = cutM M (i + 1) s n t) ∨
    (c = 115 ∧ ∃ x, M.strings[s]? = some x ∧ fv = .s x ∧ L' = cutM M i (s + 1) n t) ∨
    (c = 108 ∧ ∃ x, M.names[n]? = some x ∧ fv = .l x ∧ L' = cutM M i s (n + 1) t) ∨
    (c = 116 ∧ ∃ x, M.truths[t]? = some x ∧ fv = .t x ∧ L' = cutM M i s n (t + 1)) ∨
    (c = 99 ∧ M.bytes.length = 16 ∧ fv = .c M.bytes ∧ L' = cutM M i s n t) ∨
    (c = 114 ∧ fv = .r M.bytes ∧ L' = cutM M i s n t) := by
  have key : ∀ {α : Type} {l : List α} {k : Nat} {x : α} {r : List α}, l.drop k = x :: r → l[k]? = some x ∧ r = l.drop (k + 1) := fun {α l k x r} h => by
    have h1 : (l.drop k)[0]? = some x := by rw [h]; rfl
    rw [List.getElem?_drop, Nat.add_zero] at h1
    refine ⟨h1, ?_⟩
    have h2 := drop_cons_of h1
    rw [h] at h2
    injection h2
  unfold takeV at h
  split at h
  · rename_i hc
    split at h
    · cases h
    · rename_i x r hx
      injection h with h; injection h with h1 h2
      obtain ⟨k1, k2⟩ := key hx
      exact .inl ⟨hc, x, k1, h1.symm, by rw [← h2, k2]; rfl⟩
  split at h
  · rename_i hc
    split at h
    · cases h
    · rename_i x r hx
      injection h with h; injection h with h1 h2
      obtain ⟨k1, k2⟩ := key hx
      exact .inr (.inl ⟨hc, x, k1, h1.symm, by rw [← h2, k2]; rfl⟩)
  split at h
  · rename_i hc
    split at h
    · cases h
    · rename_i x r hx
      injection h with h; injection h with h1 h2
      obtain ⟨k1, k2⟩ := key hx
      exact .inr (.inr (.inl ⟨hc, x, k1, h1.symm, by rw [← h2, k2]; rfl⟩))
  split at h
  · rename_i hc
    split at h
    · cases h
    · rename_i x r hx
      injection h with h; injection h with h1 h2
      obtain ⟨k1, k2⟩ := key hx
      exact .inr (.inr (.inr (.inl ⟨hc, x, k1, h1.symm, by rw [← h2, k2]; rfl⟩)))
  split at h
  · rename_i hc
    split at h
    · rename_i hl
      injection h with h; injection h with h1 h2
      exact .inr (.inr (.inr (.inr (.inl ⟨hc, hl, h1.symm, h2.symm⟩))))
    · cases h
  split at h
  · rename_i hc
    injection h with h; injection h with h1 h2
    exact .inr (.inr (.inr (.inr (.inr ⟨hc, h1.symm, h2.symm⟩))))
  · cases h

theorem shape_range {n : Int} {form : List UInt8} (h : shapeP n = some form) : 0 ≤ n ∧ n ≤ 255 := by
  unfold shapeP at h
  by_cases h1 : n = 1
  · omega
  rw [if_neg h1] at h
  by_cases h5 : n = 5
  · omega
  rw [if_neg h5] at h
  by_cases h6 : n = 6
  · omega
  rw [if_neg h6] at h
  by_cases h20 : n = 20
  · omega
  rw [if_neg h20] at h
  by_cases h50 : n = 50
  · omega
  rw [if_neg h50] at h
  by_cases h51 : n = 51
  · omega
  rw [if_neg h51] at h
  by_cases h52 : n = 52
  · omega
  rw [if_neg h52] at h
  by_cases h80 : n = 80
  · omega
  rw [if_neg h80] at h
  by_cases h81 : n = 81
  · omega
  rw [if_neg h81] at h
  by_cases h82 : n = 82
  · omega
  rw [if_neg h82] at h
  by_cases h90 : n = 90
  · omega
  rw [if_neg h90] at h
  by_cases h91 : n = 91
  · omega
  rw [if_neg h91] at h
  by_cases h92 : n = 92
  · omega
  rw [if_neg h92] at h
  by_cases h93 : n = 93
  · omega
  rw [if_neg h93] at h
  by_cases h96 : n = 96
  · omega
  rw [if_neg h96] at h
  by_cases h97 : n = 97
  · omega
  rw [if_neg h97] at h
  by_cases h98 : n = 98
  · omega
  rw [if_neg h98] at h
  by_cases h99 : n = 99
  · omega
  rw [if_neg h99] at h
  by_cases h100 : n = 100
  · omega
  rw [if_neg h100] at h
  cases h
/-- A message whose bytes stand: its number, its fields. -/
theorem msgBytes_take {M : Msg} (h : (msgBytesP M).2 = true) : ∃ (x : UInt8) (form : List UInt8) (vals : List Fv) (Le : Msg), M.number = (x.toNat : Int) ∧ shapeP x.toNat = some form ∧ takeAll form M = some (vals, Le) ∧ leftOf Le = 0 ∧ (msgBytesP M).1 = x :: mshAll vals := by
  unfold msgBytesP at h ⊢
  split at h
  · cases h
  · rename_i L out rest hq
    simp only [Bool.and_eq_true, decide_eq_true_eq] at h
    obtain ⟨⟨hs, hl⟩, _⟩ := h
    obtain ⟨form, hf⟩ := Option.isSome_iff_exists.1 hs
    rw [hf] at hq
    obtain ⟨vals, L2, g1, g2, g3⟩ := mbP_take (show mbP form M [lowByte M.number] false = some (L, out, rest) from hq)
    have hn := shape_range hf
    have hx : ((lowByte M.number).toNat : Int) = M.number := by
      unfold lowByte
      rw [UInt8.toNat_ofNat']
      omega
    refine ⟨lowByte M.number, form, vals, L2, hx.symm, by rw [hx]; exact hf, g1, by rw [← g2]; exact hl, ?_⟩
    exact g3

end Go.Proofs.Ytnlkgaobbobakaa
