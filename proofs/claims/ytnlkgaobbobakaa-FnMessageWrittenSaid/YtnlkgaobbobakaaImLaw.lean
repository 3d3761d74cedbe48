/- impl.ReadMessage's plain function answers as the reference's reader does. No program stands here. -/
import Derived.Test.YtnlkgaobbobakaaImSt
set_option linter.unusedVariables false
set_option linter.unusedSimpArgs false
namespace Go.Proofs.Ytnlkgaobbobakaa

theorem failP_ne {st : Nat} (h : st ≠ 0) (n : Nat) : failP st n = st := by unfold failP; rw [if_neg h]
theorem takeP_stuck (xs : List UInt8) {st : Nat} (h : st ≠ 0) (n : Nat) : (takeP xs st n).2.2 = st := by
  unfold takeP
  rw [if_neg (fun q => h q.1)]
  exact failP_ne h 1
theorem bytesP_stuck (xs : List UInt8) {st : Nat} (h : st ≠ 0) : (bytesP xs st).2.2 = st := by
  have h1 : (numP xs st).2.2 = st := takeP_stuck xs h 4
  unfold bytesP
  rw [if_neg (fun q => h (h1.symm.trans q.1)), h1]
  exact failP_ne h 1
theorem nameSt_stuck (b : List UInt8) {st : Nat} (h : st ≠ 0) : nameSt b st = st := by
  unfold nameSt
  split
  · exact failP_ne h 2
  · rfl
theorem stepP_stuck (c : UInt8) (M : Msg) (xs : List UInt8) {st : Nat} (h : st ≠ 0) : (stepP c M xs st).2.2 = st := by
  have h4 : (numP xs st).2.2 = st := takeP_stuck xs h 4
  have h1 := takeP_stuck xs h 1
  have h16 := takeP_stuck xs h 16
  have hb := bytesP_stuck xs h
  have hn : nameSt (bytesP xs st).1 (bytesP xs st).2.2 = st := by rw [hb]; exact nameSt_stuck _ h
  unfold stepP
  repeat' split
  all_goals first | exact h4 | exact h1 | exact h16 | exact hb | exact hn | rfl
theorem runP_stuck (l : List UInt8) : ∀ (M : Msg) (xs : List UInt8) {st : Nat}, st ≠ 0 → (runP l M xs st).2.2 = st := by
  induction l with
  | nil => intros; rfl
  | cons c r ih =>
    intro M xs st h
    have h1 := stepP_stuck c M xs h
    rw [runP, ih _ _ (by rw [h1]; exact h), h1]

theorem takeP_ok {xs : List UInt8} {n : Nat} (h : n ≤ xs.length) : takeP xs 0 n = (xs.take n, xs.drop n, 0) := by
  unfold takeP; rw [if_pos ⟨rfl, h⟩]
theorem takeP_no {xs : List UInt8} {n : Nat} (h : ¬ n ≤ xs.length) : (takeP xs 0 n).2.2 = 1 := by
  unfold takeP; rw [if_neg (fun q => h q.2)]; rfl
theorem bytesP_of (xs : List UInt8) : (∃ s zs, psP xs = some (s, zs) ∧ bytesP xs 0 = (s, zs, 0)) ∨ (psP xs = none ∧ (bytesP xs 0).1 = [] ∧ (bytesP xs 0).2.2 = 1) := by
  by_cases h4 : 4 ≤ xs.length
  · have e : numP xs 0 = (headN xs, xs.drop 4, 0) := by unfold numP; rw [takeP_ok h4]; rfl
    by_cases hn : headN xs ≤ (xs.drop 4).length
    · left
      refine ⟨(xs.drop 4).take (headN xs), (xs.drop 4).drop (headN xs), ?_, ?_⟩
      · unfold psP
        rw [if_neg (by omega), if_neg (by omega)]
      · unfold bytesP
        rw [e, if_pos ⟨rfl, hn⟩]
    · right
      refine ⟨?_, ?_, ?_⟩
      · unfold psP
        rw [if_neg (by omega), if_pos (by omega)]
      · unfold bytesP
        rw [e, if_neg (fun q => hn q.2)]
      · unfold bytesP
        rw [e, if_neg (fun q => hn q.2)]
        rfl
  · right
    have e : (numP xs 0).2.2 = 1 := takeP_no h4
    refine ⟨?_, ?_, ?_⟩
    · unfold psP
      rw [if_pos (by omega)]
    · unfold bytesP
      rw [e, if_neg (fun q => by have := q.1; omega)]
    · unfold bytesP
      rw [e, if_neg (fun q => by have := q.1; omega)]
      rfl

/-- One letter: either both go on alike, or both refuse, or the reference leaves it open. -/
theorem step_law (c : UInt8) (M : Msg) (xs : List UInt8) (hc : letter c) (hb : isB c = true → M.bytes = []) :
    (∃ fv zs, rd1 c xs = some (fv, zs) ∧ stepP c M xs 0 = (accV M fv, zs, 0)) ∨ (rd1 c xs = none ∧ (stepP c M xs 0).2.2 = 1) ∨ (stepP c M xs 0).2.2 = 2 := by
  rcases hc with rfl | rfl | rfl | rfl | rfl | rfl
  · by_cases h : 4 ≤ xs.length
    · left
      refine ⟨.n (headN xs), xs.drop 4, by simp [rd1]; omega, ?_⟩
      unfold stepP
      rw [if_pos rfl]
      unfold numP
      rw [takeP_ok h]
      rfl
    · right; left
      refine ⟨by simp [rd1]; omega, ?_⟩
      unfold stepP
      rw [if_pos rfl]
      exact takeP_no h
  · rcases bytesP_of xs with ⟨s, zs, h1, h2⟩ | ⟨h1, h2, h3⟩
    · left
      refine ⟨.s s, zs, by simp [rd1, h1], ?_⟩
      unfold stepP
      rw [if_neg (by decide), if_pos rfl, h2]
      rfl
    · right; left
      refine ⟨by simp [rd1, h1], ?_⟩
      unfold stepP
      rw [if_neg (by decide), if_pos rfl]
      exact h3
  · rcases bytesP_of xs with ⟨s, zs, h1, h2⟩ | ⟨h1, h2, h3⟩
    · by_cases hany : (namesP s).any (·.isEmpty) = true
      · right; right
        unfold stepP
        rw [if_neg (by decide), if_neg (by decide), if_pos rfl, h2]
        show nameSt s 0 = 2
        unfold nameSt
        rw [if_pos hany]
        rfl
      · left
        refine ⟨.l (namesP s), zs, by simp [rd1, h1], ?_⟩
        unfold stepP
        rw [if_neg (by decide), if_neg (by decide), if_pos rfl, h2]
        show (_, zs, nameSt s 0) = _
        unfold nameSt
        rw [if_neg hany]
        rfl
    · right; left
      refine ⟨by simp [rd1, h1], ?_⟩
      unfold stepP
      rw [if_neg (by decide), if_neg (by decide), if_pos rfl]
      show nameSt _ _ = 1
      rw [h3]
      exact nameSt_stuck _ (by decide)
  · by_cases h : 1 ≤ xs.length
    · left
      refine ⟨.t (xs.headD 0 != 0), xs.drop 1, by simp [rd1]; intro e; subst e; simp at h, ?_⟩
      unfold stepP
      rw [if_neg (by decide), if_neg (by decide), if_neg (by decide), if_pos rfl, takeP_ok h]
      cases xs with
      | nil => simp at h
      | cons y r => rfl
    · right; left
      refine ⟨by simp [rd1]; exact List.eq_nil_of_length_eq_zero (by omega), ?_⟩
      unfold stepP
      rw [if_neg (by decide), if_neg (by decide), if_neg (by decide), if_pos rfl]
      exact takeP_no h
  · by_cases h : 16 ≤ xs.length
    · left
      refine ⟨.c (xs.take 16), xs.drop 16, by simp [rd1]; omega, ?_⟩
      unfold stepP
      rw [if_neg (by decide), if_neg (by decide), if_neg (by decide), if_neg (by decide), if_pos rfl, takeP_ok h]
      simp [accV, hb (by decide)]
    · right; left
      refine ⟨by simp [rd1]; omega, ?_⟩
      unfold stepP
      rw [if_neg (by decide), if_neg (by decide), if_neg (by decide), if_neg (by decide), if_pos rfl]
      exact takeP_no h
  · left
    refine ⟨.r xs, [], by simp [rd1], ?_⟩
    unfold stepP
    rw [if_neg (by decide), if_neg (by decide), if_neg (by decide), if_neg (by decide), if_neg (by decide), if_pos rfl]
    simp [accV, hb (by decide)]

theorem accV_bytes {M : Msg} {fv : Fv} {c : UInt8} {xs zs : List UInt8} (h : rd1 c xs = some (fv, zs)) (hc : letter c) (hb : isB c = false) : (accV M fv).bytes = M.bytes := by
  rcases hc with rfl | rfl | rfl | rfl | rfl | rfl
  · simp [rd1] at h
    rw [← h.2.1]; rfl
  · simp [rd1] at h
    obtain ⟨a, _, h2⟩ := h
    rw [← h2]; rfl
  · simp [rd1] at h
    obtain ⟨a, _, h2⟩ := h
    rw [← h2]; rfl
  · simp [rd1] at h
    rw [← h.2.1]; rfl
  · exact absurd hb (by decide)
  · exact absurd hb (by decide)

/-- At most one letter of plain bytes. -/
def oneL : List UInt8 → Bool
  | [] => true
  | c :: r => if isB c then r.all (fun c => !isB c) else oneL r
theorem oneL_of : ∀ (L : List (UInt8 × Nat)), oneB L = oneL (L.map (·.1))
  | [] => rfl
  | q :: r => by
    simp only [oneB, oneL, List.map_cons, oneL_of r, noB, List.all_map]
    rfl

theorem run_law : ∀ (form : List UInt8) (M : Msg) (xs : List UInt8), letters form → ((M.bytes = [] ∧ oneL form = true) ∨ form.all (fun c => !isB c) = true) →
    ((runP form M xs 0).2.2 = 0 → ∃ vals, rdAll form xs = some (vals, (runP form M xs 0).2.1) ∧ vals.foldl accV M = (runP form M xs 0).1) ∧ ((runP form M xs 0).2.2 = 1 → rdAll form xs = none)
  | [], M, xs, _, _ => ⟨fun _ => ⟨[], rfl, rfl⟩, fun h => by simp [runP] at h⟩
  | c :: r, M, xs, hl, hb => by
    have hc : letter c := hl c (List.mem_cons_self ..)
    have hr : letters r := fun q hq => hl q (List.mem_cons_of_mem _ hq)
    have hbc : isB c = true → M.bytes = [] := fun h => by
      rcases hb with hb | hb
      · exact hb.1
      · simp [h] at hb
    rcases step_law c M xs hc hbc with ⟨fv, zs, h1, h2⟩ | ⟨h1, h2⟩ | h2
    · have hb2 : ((accV M fv).bytes = [] ∧ oneL r = true) ∨ r.all (fun c => !isB c) = true := by
        rcases hb with ⟨hb, ho⟩ | hb
        · cases hi : isB c with
          | true => right; simp only [oneL, hi, if_true] at ho; exact ho
          | false =>
            left
            simp only [oneL, hi] at ho
            exact ⟨(accV_bytes h1 hc hi).trans hb, ho⟩
        · right
          simp only [List.all_cons, Bool.and_eq_true] at hb
          exact hb.2
      have ih := run_law r (accV M fv) zs hr hb2
      rw [runP, h2]
      simp only [rdAll, h1]
      refine ⟨fun h => ?_, fun h => ?_⟩
      · obtain ⟨vals, e1, e2⟩ := ih.1 h
        exact ⟨fv :: vals, by rw [e1]; rfl, e2⟩
      · rw [ih.2 h]; rfl
    · refine ⟨fun h => ?_, fun _ => by simp only [rdAll, h1]⟩
      rw [runP, runP_stuck r _ _ (by rw [h2]; decide), h2] at h
      cases h
    · have e : (runP (c :: r) M xs 0).2.2 = 2 := by rw [runP, runP_stuck r _ _ (by rw [h2]; decide), h2]
      exact ⟨fun h => absurd (e.symm.trans h) (by decide), fun h => absurd (e.symm.trans h) (by decide)⟩

/-- The two readers, of a message whose number has a shape. -/
theorem read_law {x : UInt8} {xs form : List UInt8} (hf : shapeP x.toNat = some form) (hl : letters form) (ho : oneL form = true) :
    ((readP (x :: xs)).2 = 0 → imP x xs form = some (readP (x :: xs)).1) ∧ ((readP (x :: xs)).2 = 1 → imP x xs form = none) ∧ ((readP (x :: xs)).2 ≠ 2 → x = 52 → xs = []) := by
  rw [readP_eq hf]
  have h := run_law form (Msg.none_ x.toNat) xs hl (.inl ⟨rfl, ho⟩)
  generalize hq : runP form (Msg.none_ x.toNat) xs 0 = q at *
  obtain ⟨M, ys, st⟩ := q
  simp only [endP]
  refine ⟨fun e => ?_, fun e => ?_, fun e hx => ?_⟩
  · split at e
    · split at e <;> cases e
    · rename_i hn
      obtain ⟨vals, h1, h2⟩ := h.1 e
      have : ys = [] := Classical.byContradiction fun hy => hn ⟨e, hy⟩
      subst this
      unfold imP
      rw [h1]
      exact congrArg some h2
  · split at e
    · rename_i hn
      obtain ⟨vals, h1, h2⟩ := h.1 hn.1
      unfold imP
      rw [h1]
      cases hy : ys with
      | nil => exact absurd hy hn.2
      | cons a b => rfl
    · unfold imP
      rw [h.2 e]
  · subst hx
    have hff : form = [] := by
      have : shapeP ((52 : UInt8).toNat : Int) = some [] := by decide
      rw [this] at hf
      exact (Option.some.inj hf).symm
    subst hff
    simp only [runP, Prod.mk.injEq] at hq
    obtain ⟨_, rfl, rfl⟩ := hq
    refine Classical.byContradiction fun hx => e ?_
    rw [if_pos ⟨rfl, hx⟩]
    decide

end Go.Proofs.Ytnlkgaobbobakaa
