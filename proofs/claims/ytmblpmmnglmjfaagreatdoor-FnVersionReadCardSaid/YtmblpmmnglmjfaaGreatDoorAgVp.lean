/- The version's line among lines, as plain functions. No program stands here. -/
set_option linter.unusedVariables false
set_option linter.unusedSimpArgs false
namespace Go.Proofs.YtmblpmmnglmjfaaGreatDoor

def sshP : List UInt8 := [83, 83, 72, 45]
def isSsh (vs : List UInt8) : Bool := sshP.isPrefixOf vs
def stripCR (vs : List UInt8) : List UInt8 := if vs.getLast? = some 13 then vs.dropLast else vs
/-- What readVersion makes of what is left, of what has been gathered, and of how many lines have been passed over. -/
def rvP : List UInt8 → List UInt8 → Nat → Option (List UInt8)
  | [], _, _ => none
  | b :: r, vs, c => if vs.length < 255 ∧ c < 1024 then (if b = 10 then (if isSsh vs then some (stripCR vs) else rvP r [] (c + 1)) else rvP r (vs ++ [b]) c) else none

theorem rvP_stop {vs : List UInt8} {c : Nat} (h : ¬ (vs.length < 255 ∧ c < 1024)) : ∀ r, rvP r vs c = none
  | [] => rfl
  | b :: r => by rw [rvP, if_neg h]
theorem rvP_found {r vs : List UInt8} {c : Nat} (h : vs.length < 255 ∧ c < 1024) (hs : isSsh vs = true) : rvP (10 :: r) vs c = some (stripCR vs) := by rw [rvP, if_pos h, if_pos rfl, if_pos hs]
theorem strip_at {vs : List UInt8} {n : Nat} {y : UInt8} (hn : vs.length = n + 1) (hy : vs[n]? = some y) : stripCR vs = if y = 13 then vs.take n else vs := by
  have h1 : vs.getLast? = some y := by rw [List.getLast?_eq_getElem?, hn]; exact hy
  unfold stripCR
  rw [h1, List.dropLast_eq_take, hn]
  by_cases h : y = 13
  · rw [if_pos (by rw [h]), if_pos h]; rfl
  · rw [if_neg (fun e => h (by injection e)), if_neg h]
/-- A line as the law writes it: its signs, and its end if it has one. -/
def lineP (s : List UInt8) (e t : Bool) : List UInt8 := s ++ (if t then (if e then [13] else []) ++ [10] else [])
/-- Of n lines: does the line i have an end? -/
def termP (n : Nat) (last : Bool) (i : Nat) : Bool := last || decide (i + 1 < n)
def textP (n : Nat) (last : Bool) (l : List (List UInt8)) (es : List Bool) : Nat → List UInt8
  | 0 => []
  | k + 1 => textP n last l es k ++ lineP (l.getD k []) (es.getD k false) (termP n last k)
def foundP (n : Nat) (last : Bool) (l : List (List UInt8)) : Nat → Option (List UInt8)
  | 0 => none
  | k + 1 => match foundP n last l k with
    | some x => some x
    | none => if isSsh (l.getD k []) && termP n last k then some (l.getD k []) else none
/-- Lines that are asked. -/
def LineOk (s : List UInt8) : Prop := s.length ≤ 200 ∧ ∀ c ∈ s, c ≠ 10 ∧ c ≠ 13

theorem rvP_signs : ∀ (s r vs : List UInt8) (c : Nat), (∀ x ∈ s, x ≠ 10) → vs.length + s.length ≤ 255 → c < 1024 → rvP (s ++ r) vs c = rvP r (vs ++ s) c
  | [], r, vs, c, _, _, _ => by simp
  | x :: s, r, vs, c, h, hl, hc => by
    have hx := h x (by simp)
    have hl' : vs.length + (s.length + 1) ≤ 255 := by simpa using hl
    rw [List.cons_append, rvP, if_pos ⟨by omega, hc⟩, if_neg hx, rvP_signs s r (vs ++ [x]) c (fun y hy => h y (by simp [hy])) (by simp; omega) hc]
    simp
theorem getLast_ne {s : List UInt8} (h : ∀ c ∈ s, c ≠ 13) : s.getLast? ≠ some 13 := fun e => h 13 (List.mem_of_getLast? e) rfl
theorem strip_self {s : List UInt8} (h : ∀ c ∈ s, c ≠ 13) : stripCR s = s := by unfold stripCR; rw [if_neg (getLast_ne h)]
theorem strip_cr (s : List UInt8) : stripCR (s ++ [13]) = s := by unfold stripCR; simp
theorem ssh_cr (s : List UInt8) : isSsh (s ++ [13]) = isSsh s := by
  unfold isSsh sshP
  match s with
  | [] => rfl
  | [a] => simp [List.isPrefixOf]
  | [a, b] => simp [List.isPrefixOf]
  | [a, b, c] => simp [List.isPrefixOf]
  | a :: b :: c :: d :: r => simp [List.isPrefixOf]
/-- A line with an end. -/
theorem rvP_line {s : List UInt8} (hs : LineOk s) (e : Bool) (r : List UInt8) (c : Nat) (hc : c < 1024) :
    rvP (lineP s e true ++ r) [] c = if isSsh s then some s else rvP r [] (c + 1) := by
  unfold lineP
  have h10 : ∀ x ∈ s, x ≠ 10 := fun x hx => (hs.2 x hx).1
  have h13 : ∀ x ∈ s, x ≠ 13 := fun x hx => (hs.2 x hx).2
  have hl := hs.1
  cases e with
  | false =>
    simp only [if_true, Bool.false_eq_true, if_false, List.nil_append, List.append_assoc]
    rw [rvP_signs s _ [] c h10 (by simp; omega) hc, List.nil_append, List.singleton_append, rvP, if_pos ⟨by omega, hc⟩, if_pos rfl, strip_self h13]
  | true =>
    simp only [if_true, List.append_assoc]
    rw [rvP_signs s _ [] c h10 (by simp; omega) hc, List.nil_append]
    rw [rvP_signs [13] _ s c (by simp) (by simp; omega) hc, List.singleton_append, rvP, if_pos ⟨by simp; omega, hc⟩, if_pos rfl, ssh_cr, strip_cr]
theorem rvP_open {s : List UInt8} (hs : LineOk s) (e : Bool) (c : Nat) (hc : c < 1024) : rvP (lineP s e false) [] c = none := by
  unfold lineP
  have h10 : ∀ x ∈ s, x ≠ 10 := fun x hx => (hs.2 x hx).1
  have hl := hs.1
  have := rvP_signs s [] [] c h10 (by simp; omega) hc
  simpa [rvP] using this

/-- Where nothing has been found so far the rest decides. -/
theorem rvP_text (n : Nat) (last : Bool) (l : List (List UInt8)) (es : List Bool) (hn : n ≤ 20) (hl : ∀ i, i < n → LineOk (l.getD i [])) :
    ∀ k, k ≤ n → (∀ i, i < k → termP n last i = true) → ∀ r, rvP (textP n last l es k ++ r) [] 0 = match foundP n last l k with
      | some x => some x
      | none => rvP r [] k := by
  intro k
  induction k with
  | zero => intro _ _ r; simp [textP, foundP]
  | succ k ih =>
    intro hk ht r
    have ht' := ht k (by omega)
    rw [textP, List.append_assoc, ih (by omega) (fun i hi => ht i (by omega)), foundP]
    cases hf : foundP n last l k with
    | some x => rfl
    | none =>
      simp only []
      rw [ht', rvP_line (hl k (by omega)) _ _ k (by omega)]
      cases hs : isSsh (l.getD k []) <;> simp
theorem rvP_all (n : Nat) (last : Bool) (l : List (List UInt8)) (es : List Bool) (hn : n ≤ 20) (hl : ∀ i, i < n → LineOk (l.getD i [])) : rvP (textP n last l es n) [] 0 = foundP n last l n := by
  cases n with
  | zero => rfl
  | succ m =>
    have ht : ∀ i, i < m → termP (m + 1) last i = true := fun i hi => by unfold termP; simp; right; exact hi
    by_cases hlast : termP (m + 1) last m = true
    · have h := rvP_text (m + 1) last l es hn hl (m + 1) (Nat.le_refl _) (fun i hi => by
        by_cases he : i = m
        · rw [he]; exact hlast
        · exact ht i (by omega)) []
      rw [List.append_nil] at h
      rw [h]
      cases foundP (m + 1) last l (m + 1) <;> rfl
    · have hlast' : termP (m + 1) last m = false := by simpa using hlast
      have h := rvP_text (m + 1) last l es hn hl m (by omega) ht (lineP (l.getD m []) (es.getD m false) false)
      rw [textP, hlast', h, foundP, hlast']
      cases hf : foundP (m + 1) last l m with
      | some x => rfl
      | none => simp only []; rw [rvP_open (hl m (by omega)) _ m (by omega)]; simp
theorem textP_len (n : Nat) (last : Bool) (l : List (List UInt8)) (es : List Bool) : ∀ k, (∀ i, i < k → (l.getD i []).length ≤ 200) → (textP n last l es k).length ≤ k * 202
  | 0, _ => by simp [textP]
  | k + 1, h => by
    have h1 := textP_len n last l es k (fun i hi => h i (by omega))
    have h2 := h k (by omega)
    have h3 : (lineP (l.getD k []) (es.getD k false) (termP n last k)).length ≤ (l.getD k []).length + 2 := by
      unfold lineP
      rw [List.length_append]
      split
      · split <;> simp
      · simp
    rw [textP, List.length_append, Nat.add_mul]
    omega

end Go.Proofs.YtmblpmmnglmjfaaGreatDoor
