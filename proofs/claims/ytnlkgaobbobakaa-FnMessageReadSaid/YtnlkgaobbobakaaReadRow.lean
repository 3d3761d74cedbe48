/- Proved: 'Rows.FnMessageReadSaid': laws.FnMessageRead returns true at every input that the row lets in, and each argument reads as it did. No condition. -/
import Derived.Test.YtnlkgaobbobakaaRows
import Derived.Test.YtnlkgaobbobakaaFnRead
import Derived.Test.YtnlkgaobbobakaaArgs
import Derived.WalkKit
import Derived.ProofKit
import Derived.OpenShut
import Derived.ShutString
import Derived.ChangeOld
import Derived.Below
namespace Go.Proofs.Ytnlkgaobbobakaa.readRow
open Go.ChangeShapes Go.WideShapes Go.ChangeAt Go.RowKit
open Go.ChangeMaps (open_string shut_string)
set_option linter.unusedVariables false

theorem own : ownKnob Try.prog.godebug = none := by kernel_rfl
theorem laidOut : laidOutB Try.prog = true := by kernel_rfl

theorem turns_of {H : Type} {enc : TypeId × Value → H} {W : World} {A : Option Addr} {n c : Nat} {d : DataW H} {p : List MemPlace} (h : DataW.Trod enc Try.prog W 0 (fun _ => true) true 29 (.slice A n c) d p) :
    ∃ lt : List (Int × UInt8), lt.length = n ∧ TurnsAt W A lt := by
  obtain ⟨fuel, hf⟩ := h
  have hf : DataW.trod enc Try.prog W 0 (fun _ => true) true fuel 29 [.slice A n c] = some (d, p) := by simpa [Value.cells] using hf
  rcases Deep.open_slice_pairs Try.underlying29 Try.underlying35 (by kernel_rfl) rfl rfl (by kernel_rfl) (by kernel_rfl) hf with ⟨hv, _⟩ | ⟨a, len, cap, m, n', V0, V1, D0, D1, P0, P1, hv, _, hl, hm, hmm, _, hx⟩
  · simp at hv
    obtain ⟨rfl, rfl, rfl⟩ := hv
    exact ⟨[], rfl, fun i p hp => by simp at hp⟩
  · simp at hv
    obtain ⟨rfl, rfl, rfl⟩ := hv
    have hlm : n ≤ m := by rw [hmm]; simpa using hl
    obtain ⟨f, hfn⟩ := Deep.choose_lt (α := Int × UInt8) (n := n) (p := fun i x => V0 i = .int .i64 x.1 ∧ V1 i = byteV x.2) (fun i hi => by
      obtain ⟨_, _, h3, h4⟩ := hx i (by omega)
      obtain ⟨z, hz, _, _⟩ := DataW.trod_int Try.underlying3 h3
      obtain ⟨y, hy, _⟩ := el_u8 n' (V1 i) _ h4
      exact ⟨(z, y), by simpa using hz, hy⟩)
    refine ⟨(List.range n).map f, by simp, fun i p hp => ?_⟩
    rw [List.getElem?_map] at hp
    obtain ⟨j, hj, rfl⟩ := Option.map_eq_some_iff.1 hp
    obtain ⟨h1, h2⟩ := List.getElem?_eq_some_iff.1 hj
    have h3 : i < n := by simpa using h1
    have h4 : i = j := by simpa using h2
    subst h4
    obtain ⟨e1, e2, _, _⟩ := hx i (by omega)
    obtain ⟨g1, g2⟩ := hfn i h3
    exact ⟨a, rfl, by rw [e1, g1], by rw [e2, g2]⟩

theorem bytes_of {H : Type} {enc : TypeId × Value → H} {W : World} {A : Option Addr} {n c : Nat} {d : DataW H} {p : List MemPlace} (h : DataW.Trod enc Try.prog W 0 (fun _ => true) true 26 (.slice A n c) d p) :
    ∃ l : List UInt8, l.length = n ∧ RR (lit byteV) all_ W A l := by
  obtain ⟨fuel, hf⟩ := h
  obtain ⟨l, ⟨A', c', hv, _, _, hr⟩, _⟩ := SL_of_trod (R := lit byteV) (Q := fun _ => True) Try.underlying26 (by kernel_rfl) el_u8 (v := .slice A n c) (by simpa [Value.cells] using hf)
  injection hv with e1 e2 e3
  subst e1
  exact ⟨l, e2.symm, hr⟩

/-! ### THE ROW's STEP -/
set_option maxRecDepth 100000 in
theorem lifted (os : Os) (started : os.Started) (H : Type) (enc : TypeId × Value → H) :
    ReturnsInHanded {} Try.checked os 3 .any (Rows.fnMessageReadSpec.pre6 enc Try.prog Try.f3 Rows.fnMessageReadRow.domain false) (Rows.fnMessageReadSpec.post enc Try.prog Try.f3 false true false false) := by
  refine returnsInHanded_of_change (C := Try.checked) own started (by kernel_rfl) Try.func3
    (ChangeSpec.witness6 (enc := enc) (C := Try.checked) false ⟨#[], #[.agg #[.int .i64 0, .slice none 0 0, .slice none 0 0, .slice none 0 0, .slice none 0 0, .slice none 0 0], .slice none 0 0, .int .i64 0, .slice none 0 0, .slice none 0 0], []⟩ 8 (by kernel_rfl) (by kernel_rfl) (by kernel_rfl) (by kernel_rfl)) ?_
  intro W base args ds gs before hval0 hW hcnd _
  have hval : ∀ (j : Nat) t v, Try.f3.params[j]? = some t → args[j]? = some v → Value.okWide Try.prog W .any base t v := hval0
  have hW' := hW
  obtain ⟨p, q, hA0, hV, rfl, hfz, hnd⟩ := hW
  have hA : DataW.TrodAll enc Try.prog W 0 (fun _ => true) true Try.f3.params.toList args.toList ds p := hA0
  rw [Try.params3] at hA hval
  obtain ⟨v0, vs0, d0, ds0, p0, q0, hargs, rfl, rfl, h0, r0⟩ := trodAll_cons hA
  obtain ⟨v1, vs1, d1, ds1, p1, q1, rfl, rfl, rfl, h1, r1⟩ := trodAll_cons r0
  obtain ⟨v2, vs2, d2, ds2, p2, q2, rfl, rfl, rfl, h2, r2⟩ := trodAll_cons r1
  obtain ⟨v3, vs3, d3, ds3, p3, q3, rfl, rfl, rfl, h3, r3⟩ := trodAll_cons r2
  obtain ⟨v4, vs4, d4, ds4, p4, q4, rfl, rfl, rfl, h4, r4⟩ := trodAll_cons r3
  obtain ⟨rfl, rfl, rfl⟩ := trodAll_nil r4
  obtain rfl : args = #[v0, v1, v2, v3, v4] := by cases args; simp_all
  obtain ⟨rfl, rfl⟩ := trodVars_none hV
  have k0 := h0
  have lt0 : ∀ x ∈ p0, x.block < W.heap.size := by obtain ⟨m, hm⟩ := k0; exact DataW.trod_lt m _ _ _ hm
  obtain ⟨M, hM, hu, hn1, hn2⟩ := msg_of_trod (hval 0 28 v0 rfl rfl) h0
  obtain ⟨a1, len1, cap1, rfl⟩ := okWide_slice Try.underlying29 (hval 1 29 v1 rfl rfl)
  have k1 := h1
  have lt1 : ∀ x ∈ p1, x.block < W.heap.size := by obtain ⟨m, hm⟩ := k1; exact DataW.trod_lt m _ _ _ hm
  obtain ⟨lt, rfl, hlt⟩ := turns_of h1
  obtain ⟨a2, rfl, rfl, rfl, w2⟩ := open_int Try.underlying3 (hval 2 3 v2 rfl rfl) h2
  obtain ⟨a3, len3, cap3, rfl⟩ := okWide_slice Try.underlying26 (hval 3 26 v3 rfl rfl)
  have k3 := h3
  have lt3 : ∀ x ∈ p3, x.block < W.heap.size := by obtain ⟨m, hm⟩ := k3; exact DataW.trod_lt m _ _ _ hm
  obtain ⟨more, rfl, hmo⟩ := bytes_of h3
  obtain ⟨a4, len4, cap4, rfl⟩ := okWide_slice Try.underlying26 (hval 4 26 v4 rfl rfl)
  have k4 := h4
  have lt4 : ∀ x ∈ p4, x.block < W.heap.size := by obtain ⟨m, hm⟩ := k4; exact DataW.trod_lt m _ _ _ hm
  obtain ⟨other, rfl, hot⟩ := bytes_of h4
  clear hA0 hval0
  refine (fnread_walk W v0 M hM hu ⟨hn1, hn2⟩ a1 lt cap1 hlt a2 a3 more cap3 hmo a4 other cap4 hot).mono fun e W' ⟨he, bel⟩ => ?_
  subst he
  exact ⟨_, rfl, _, _, _, [], _, [], hW', trodAll_mk1 (shut_bool Try.underlying4 _),
    (trodAll_cons_mk (Below.trod laidOut (by kernel_rfl) (of_decide_eq_true (by kernel_rfl)) k0 bel lt0) (trodAll_cons_mk (Below.trod laidOut (by kernel_rfl) (of_decide_eq_true (by kernel_rfl)) k1 bel lt1) (trodAll_cons_mk (shut_int Try.underlying3 w2)
      (trodAll_cons_mk (Below.trod laidOut (by kernel_rfl) (of_decide_eq_true (by kernel_rfl)) k3 bel lt3) (trodAll_cons_mk (Below.trod laidOut (by kernel_rfl) (of_decide_eq_true (by kernel_rfl)) k4 bel lt4) trodAll_mk0))))), rfl, bel.frame _, fun h => by cases h⟩

theorem over : Rows.fnMessageReadRow.holds Try.pinned (OpenSpec.ofChange Rows.fnMessageReadSpec) :=
  OpenClaim.holds_of_wide 3 Try.f3 rfl rfl rfl rfl rfl rfl rfl ⟨rfl, rfl, rfl, rfl, rfl⟩ rfl rfl rfl rfl rfl (by kernel_rfl) Try.func3 (by kernel_rfl)
    (of_decide_eq_true (by kernel_rfl)) (by unfold Func.isWrapper; first | (rw [if_pos (by decide +kernel)]; kernel_rfl) | (rw [if_neg (by decide +kernel)]; exact ⟨rfl, rfl⟩))
    (fun os started H enc _ => lifted os started H enc)

end Go.Proofs.Ytnlkgaobbobakaa.readRow
namespace Go.Proofs.Ytnlkgaobbobakaa
theorem fnMessageRead_holds : Rows.FnMessageReadSaid := readRow.over
#print axioms fnMessageRead_holds
end Go.Proofs.Ytnlkgaobbobakaa
