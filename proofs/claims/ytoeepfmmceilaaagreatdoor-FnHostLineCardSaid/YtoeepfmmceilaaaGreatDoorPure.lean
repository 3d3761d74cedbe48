/- Messages as plain data, and the plain functions that read and write them. No program stands here. -/
set_option linter.unusedVariables false
set_option linter.unusedSimpArgs false
namespace Go.Proofs.YtoeepfmmceilaaaGreatDoor

/-- A message: its number, its numbers, strings, lists of names, truths and bytes. -/
structure Msg where
  number : Int
  ints : List Nat
  strings : List (List UInt8)
  names : List (List (List UInt8))
  truths : List Bool
  bytes : List UInt8

/-- What a message of a number has, by its letters. -/
def shapeP (n : Int) : Option (List UInt8) :=
  if n = 1 then some [110, 115, 115] else
  if n = 5 then some [115] else
  if n = 6 then some [115] else
  if n = 20 then some [99, 108, 108, 108, 108, 108, 108, 108, 108, 108, 108, 116, 110] else
  if n = 50 then some [115, 115, 115, 114] else
  if n = 51 then some [108, 116] else
  if n = 52 then some [] else
  if n = 80 then some [115, 116, 114] else
  if n = 81 then some [114] else
  if n = 82 then some [114] else
  if n = 90 then some [115, 110, 110, 110, 114] else
  if n = 91 then some [110, 110, 110, 110, 114] else
  if n = 92 then some [110, 110, 115, 115] else
  if n = 93 then some [110, 110] else
  if n = 96 then some [110] else
  if n = 97 then some [110] else
  if n = 98 then some [110, 115, 116, 114] else
  if n = 99 then some [110] else
  if n = 100 then some [110] else none

/-- Pieces between commas: what has been gathered of the piece at hand, then the rest. -/
def splitC : List UInt8 → List UInt8 → List (List UInt8)
  | cur, [] => [cur]
  | cur, c :: r => if c = 44 then cur :: splitC [] r else splitC (cur ++ [c]) r

def be32 (a b c d : UInt8) : Nat := a.toNat * 16777216 + b.toNat * 65536 + c.toNat * 256 + d.toNat
def be32l : List UInt8 → Nat
  | [a, b, c, d] => be32 a b c d
  | _ => 0

/-! ### the reference's reader: what is left, its word (0 fine, 1 refused, 2 open) -/
def failP (st n : Nat) : Nat := if st = 0 then n else st
/-- take: what is handed out, what is left, the word behind it. -/
def takeP (xs : List UInt8) (st n : Nat) : List UInt8 × List UInt8 × Nat :=
  if st = 0 ∧ n ≤ xs.length then (xs.take n, xs.drop n, 0) else (List.replicate (min n 64) 0, xs, failP st 1)
def numP (xs : List UInt8) (st : Nat) : Nat × List UInt8 × Nat := (be32l (takeP xs st 4).1, (takeP xs st 4).2)
def bytesP (xs : List UInt8) (st : Nat) : List UInt8 × List UInt8 × Nat :=
  if (numP xs st).2.2 = 0 ∧ (numP xs st).1 ≤ (numP xs st).2.1.length then ((numP xs st).2.1.take (numP xs st).1, (numP xs st).2.1.drop (numP xs st).1, 0)
  else ([], (numP xs st).2.1, failP (numP xs st).2.2 1)

def namesP (b : List UInt8) : List (List UInt8) := if b = [] then [] else splitC [] b
def nameSt (b : List UInt8) (st : Nat) : Nat := if (namesP b).any (·.isEmpty) then failP st 2 else st

/-- One letter. -/
def stepP (c : UInt8) (M : Msg) (xs : List UInt8) (st : Nat) : Msg × List UInt8 × Nat :=
  if c = 110 then ({ M with ints := M.ints ++ [(numP xs st).1] }, (numP xs st).2)
  else if c = 115 then ({ M with strings := M.strings ++ [(bytesP xs st).1] }, (bytesP xs st).2)
  else if c = 108 then ({ M with names := M.names ++ [namesP (bytesP xs st).1] }, (bytesP xs st).2.1, nameSt (bytesP xs st).1 (bytesP xs st).2.2)
  else if c = 116 then ({ M with truths := M.truths ++ [(takeP xs st 1).1.headD 0 != 0] }, (takeP xs st 1).2)
  else if c = 99 then ({ M with bytes := (takeP xs st 16).1 }, (takeP xs st 16).2)
  else if c = 114 then ({ M with bytes := xs }, [], st)
  else (M, xs, st)
def runP : List UInt8 → Msg → List UInt8 → Nat → Msg × List UInt8 × Nat
  | [], M, xs, st => (M, xs, st)
  | c :: r, M, xs, st => runP r (stepP c M xs st).1 (stepP c M xs st).2.1 (stepP c M xs st).2.2
def Msg.none_ (n : Int) : Msg := ⟨n, [], [], [], [], []⟩
/-- Reading a message: what it is, and what becomes of it. -/
def readP (xs : List UInt8) : Msg × Nat :=
  match xs with
  | [] => (Msg.none_ 0, 1)
  | c :: r =>
    match shapeP c.toNat with
    | none => (Msg.none_ c.toNat, 2)
    | some form =>
      let q := runP form (Msg.none_ c.toNat) r 0
      (q.1, if q.2.2 = 0 ∧ q.2.1 ≠ [] then (if q.1.number = 52 then 2 else 1) else q.2.2)

/-! ### cutting at commas, place by place -/
def Spl (ys : List UInt8) (l : List (List UInt8)) (f i : Nat) : Prop :=
  f ≤ i ∧ ((i ≤ ys.length ∧ splitC [] ys = l ++ splitC ((ys.take i).drop f) (ys.drop i)) ∨ (i = ys.length + 1 ∧ l = splitC [] ys))
theorem Spl.start (ys : List UInt8) : Spl ys [] 0 0 := ⟨Nat.le_refl _, .inl ⟨Nat.zero_le _, by simp⟩⟩
theorem drop_cons_of {α : Type} {ys : List α} {i : Nat} {c : α} (h : ys[i]? = some c) : ys.drop i = c :: ys.drop (i + 1) := by
  obtain ⟨h1, h2⟩ := List.getElem?_eq_some_iff.1 h
  rw [List.drop_eq_getElem_cons h1, h2]
theorem Spl.comma {ys : List UInt8} {l : List (List UInt8)} {f i : Nat} (h : Spl ys l f i) (hi : ys[i]? = some 44) : Spl ys (l ++ [(ys.take i).drop f]) (i + 1) (i + 1) := by
  have hlt := (List.getElem?_eq_some_iff.1 hi).1
  refine ⟨Nat.le_refl _, .inl ⟨hlt, ?_⟩⟩
  rcases h.2 with ⟨_, h2⟩ | ⟨h2, _⟩
  · rw [drop_cons_of hi, splitC, if_pos rfl] at h2
    rw [h2]
    simp
  · omega
theorem Spl.other {ys : List UInt8} {l : List (List UInt8)} {f i : Nat} {c : UInt8} (h : Spl ys l f i) (hi : ys[i]? = some c) (hc : c ≠ 44) : Spl ys l f (i + 1) := by
  have hlt := (List.getElem?_eq_some_iff.1 hi).1
  refine ⟨by have := h.1; omega, .inl ⟨hlt, ?_⟩⟩
  rcases h.2 with ⟨_, h2⟩ | ⟨h2, _⟩
  · rw [drop_cons_of hi, splitC, if_neg hc] at h2
    rw [h2, List.take_add_one, hi, List.drop_append]
    have : f - (ys.take i).length = 0 := by rw [List.length_take]; have := h.1; omega
    rw [this]
    rfl
  · omega
theorem Spl.last {ys : List UInt8} {l : List (List UInt8)} {f i : Nat} (h : Spl ys l f i) (hi : i = ys.length) : Spl ys (l ++ [(ys.take i).drop f]) (i + 1) (i + 1) := by
  subst hi
  refine ⟨Nat.le_refl _, .inr ⟨rfl, ?_⟩⟩
  rcases h.2 with ⟨_, h2⟩ | ⟨h2, _⟩
  · rw [h2, List.drop_length, splitC]
  · omega
theorem Spl.done {ys : List UInt8} {l : List (List UInt8)} {f i : Nat} (h : Spl ys l f i) (hi : i = ys.length + 1) : l = splitC [] ys := by
  rcases h.2 with ⟨h2, _⟩ | ⟨_, h2⟩
  · omega
  · exact h2
/-- The word behind so many names. -/
def stL (l : List (List UInt8)) (st : Nat) : Nat := if l.any (·.isEmpty) then failP st 2 else st
theorem stL_nil (st : Nat) : stL [] st = st := rfl
theorem stL_empty (l : List (List UInt8)) (st : Nat) : stL (l ++ [[]]) st = failP (stL l st) 2 := by
  unfold stL failP
  cases h : l.any (·.isEmpty) <;> simp [h]
  by_cases h0 : st = 0 <;> simp [h0]
theorem stL_more (l : List (List UInt8)) (p : List UInt8) (st : Nat) (hp : p ≠ []) : stL (l ++ [p]) st = stL l st := by
  have : p.isEmpty = false := by cases p; exact absurd rfl hp; rfl
  unfold stL
  simp [this]

/-! ### what is read never grows -/
theorem takeP_le (xs : List UInt8) (st n : Nat) : (takeP xs st n).2.1.length ≤ xs.length := by
  unfold takeP
  split <;> simp
theorem bytesP_le (xs : List UInt8) (st : Nat) : (bytesP xs st).1.length + (bytesP xs st).2.1.length ≤ xs.length := by
  have h := takeP_le xs st 4
  unfold bytesP
  split
  · simp only [List.length_take, List.length_drop]
    have : (numP xs st).2.1 = (takeP xs st 4).2.1 := rfl
    rw [this] at *
    omega
  · simp only [List.length_nil]
    have : (numP xs st).2.1 = (takeP xs st 4).2.1 := rfl
    rw [this]
    omega
theorem stepP_le (c : UInt8) (M : Msg) (xs : List UInt8) (st : Nat) : (stepP c M xs st).2.1.length ≤ xs.length := by
  have h1 := takeP_le xs st 4
  have h2 := takeP_le xs st 1
  have h3 := takeP_le xs st 16
  have h4 := bytesP_le xs st
  unfold stepP
  repeat' split
  all_goals first | exact h1 | exact h2 | exact h3 | (simp only []; omega) | simp

theorem stepP_number (c : UInt8) (M : Msg) (xs : List UInt8) (st : Nat) : (stepP c M xs st).1.number = M.number := by
  unfold stepP
  repeat' split
  all_goals rfl
theorem runP_number (l : List UInt8) : ∀ (M : Msg) (xs : List UInt8) (st : Nat), (runP l M xs st).1.number = M.number := by
  induction l with
  | nil => intros; rfl
  | cons c r ih => intro M xs st; rw [runP, ih, stepP_number]
/-- The word behind the letters. -/
def endP (number : Int) (xs : List UInt8) (st : Nat) : Nat := if st = 0 ∧ xs ≠ [] then (if number = 52 then 2 else 1) else st
theorem readP_eq {x : UInt8} {r form : List UInt8} (h : shapeP x.toNat = some form) : readP (x :: r) = ((runP form (Msg.none_ x.toNat) r 0).1, endP x.toNat (runP form (Msg.none_ x.toNat) r 0).2.1 (runP form (Msg.none_ x.toNat) r 0).2.2) := by
  unfold readP endP
  simp only [h, runP_number]
  rfl

/-! ### writing -/
def be4 (n : Nat) : List UInt8 := [UInt8.ofNat (n / 16777216), UInt8.ofNat (n / 65536), UInt8.ofNat (n / 256), UInt8.ofNat n]
def strP (l : List UInt8) : List UInt8 := be4 (l.length % 4294967296) ++ l
/-- Names with commas between: what has been written, then the others. -/
def commaTo (out : List UInt8) : List (List UInt8) → Nat → List UInt8
  | [], _ => out
  | s :: r, i => commaTo ((if 0 < i then out ++ [44] else out) ++ s) r (i + 1)
def commas (l : List (List UInt8)) : List UInt8 := commaTo [] l 0

/-- One letter of a message that is written; L: what is left of its parts. -/
def mbStep (c : UInt8) (L : Msg) (out : List UInt8) (rest : Bool) : Option (Msg × List UInt8 × Bool) :=
  if c = 110 then (match L.ints with | [] => none | x :: r => some ({ L with ints := r }, out ++ be4 x, rest))
  else if c = 115 then (match L.strings with | [] => none | x :: r => some ({ L with strings := r }, out ++ strP x, rest))
  else if c = 108 then (match L.names with | [] => none | x :: r => some ({ L with names := r }, out ++ strP (commas x), rest))
  else if c = 116 then (match L.truths with | [] => none | x :: r => some ({ L with truths := r }, out ++ [if x then 1 else 0], rest))
  else if c = 99 then (if L.bytes.length = 16 then some (L, out ++ L.bytes, true) else none)
  else if c = 114 then some (L, out ++ L.bytes, true)
  else none
def mbP : List UInt8 → Msg → List UInt8 → Bool → Option (Msg × List UInt8 × Bool)
  | [], L, out, rest => some (L, out, rest)
  | c :: r, L, out, rest => match mbStep c L out rest with
    | none => none
    | some q => mbP r q.1 q.2.1 q.2.2
def lowByte (n : Int) : UInt8 := UInt8.ofNat (n % 256).toNat
def leftOf (L : Msg) : Nat := L.ints.length + L.strings.length + L.names.length + L.truths.length
/-- A message's bytes, and whether it is one. -/
def msgBytesP (M : Msg) : List UInt8 × Bool :=
  match mbP ((shapeP M.number).getD []) M [lowByte M.number] false with
  | none => ([], false)
  | some (L, out, rest) => (out, (shapeP M.number).isSome && decide (leftOf L = 0) && (rest || decide (L.bytes.length = 0)))
/-- Parts of a message that is asked. -/
structure Fit (M : Msg) : Prop where
  ints : M.ints.length ≤ 10
  u32 : ∀ n ∈ M.ints, n < 4294967296
  strings : M.strings.length ≤ 10
  str : ∀ s ∈ M.strings, s.length ≤ 200
  names : M.names.length ≤ 10
  name : ∀ l ∈ M.names, l.length ≤ 10 ∧ ∀ s ∈ l, s.length ≤ 60 ∧ s ≠ [] ∧ ∀ c ∈ s, c ≠ 44
  truths : M.truths.length ≤ 5
  bytes : M.bytes.length ≤ 500

/-! ### searching -/
/-- Where sep stands first. -/
def idxP (sep : List UInt8) : List UInt8 → Option Nat
  | [] => if sep = [] then some 0 else none
  | c :: r => if sep.isPrefixOf (c :: r) then some 0 else (idxP sep r).map (· + 1)
theorem idxP_none_short (sep : List UInt8) : ∀ (s : List UInt8), s.length < sep.length → idxP sep s = none
  | [], h => by
    have : sep ≠ [] := by rintro rfl; simp at h
    simp [idxP, this]
  | c :: r, h => by
    have hp : sep.isPrefixOf (c :: r) = false := by
      rw [Bool.eq_false_iff]
      intro hp
      have := List.IsPrefix.length_le (List.isPrefixOf_iff_prefix.1 hp)
      omega
    rw [idxP, if_neg (by rw [hp]; decide), idxP_none_short sep r (by simp at h; omega)]
    rfl
theorem take_eq_prefix (s sep : List UInt8) : s.take sep.length = sep ↔ sep.isPrefixOf s = true := by
  rw [List.isPrefixOf_iff_prefix, List.prefix_iff_eq_take]
  exact eq_comm
/-- At a place where sep stands. -/
theorem idxP_hit {sep s : List UInt8} {i : Nat} (h : ((s.take (i + sep.length)).drop i) = sep) (hi : i + sep.length ≤ s.length) : idxP sep (s.drop i) = some 0 := by
  have h1 : (s.drop i).take sep.length = sep := by rw [List.take_drop, Nat.add_comm]; rw [Nat.add_comm] at h; exact h
  have h2 := (take_eq_prefix _ _).1 h1
  cases hd : s.drop i with
  | nil =>
    rw [hd] at h1
    have h3 : sep = [] := by rw [← h1]; exact List.take_nil
    subst h3
    rfl
  | cons c r => rw [hd] at h2; rw [idxP, if_pos h2]
theorem idxP_miss {sep s : List UInt8} {i : Nat} (h : ((s.take (i + sep.length)).drop i) ≠ sep) (hi : i + sep.length ≤ s.length) : i < s.length ∧ idxP sep (s.drop i) = (idxP sep (s.drop (i + 1))).map (· + 1) := by
  have h1 : (s.drop i).take sep.length ≠ sep := by rw [List.take_drop, Nat.add_comm]; rw [Nat.add_comm] at h; exact h
  have h2 : ¬ sep.isPrefixOf (s.drop i) = true := fun e => h1 ((take_eq_prefix _ _).2 e)
  have hlt : i < s.length := by
    rcases Nat.lt_or_ge i s.length with q | q
    · exact q
    · exfalso
      rw [List.drop_eq_nil_of_le q] at h1
      have : sep = [] := List.eq_nil_of_length_eq_zero (by omega)
      rw [this] at h1
      simp at h1
  refine ⟨hlt, ?_⟩
  rw [List.drop_eq_getElem_cons hlt] at h2 ⊢
  rw [idxP, if_neg h2]

end Go.Proofs.YtoeepfmmceilaaaGreatDoor
