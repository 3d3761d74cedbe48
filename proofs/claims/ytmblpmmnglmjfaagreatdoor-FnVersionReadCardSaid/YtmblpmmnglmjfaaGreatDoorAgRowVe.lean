/- Proved: 'Rows.FnVersionReadCardSaid': laws.FnVersionRead returns true at every input, and its arguments read as they did. The listed package variables (io's three sentinels, ssh's table of certificates' names) hold what the program's text lays in them: the card ties that. -/
import Derived.Test.YtmblpmmnglmjfaaGreatDoorCards
import Derived.Test.YtmblpmmnglmjfaaGreatDoorTie
import Derived.Test.YtmblpmmnglmjfaaGreatDoorAgLaid
import Derived.Test.YtmblpmmnglmjfaaGreatDoorAgArgs
import Derived.Test.YtmblpmmnglmjfaaGreatDoorAgFve
import Derived.SevenTiedAt
import Derived.ChangeOld
import Derived.Below
namespace Go.Proofs.YtmblpmmnglmjfaaGreatDoor.rowVe
open Go.ChangeShapes Go.WideShapes Go.ChangeAt Go.RowKit
open Go.ChangeMaps (open_string shut_string)
set_option linter.unusedVariables false

set_option maxRecDepth 100000 in
set_option maxHeartbeats 1600000 in
theorem lifted (os : Os) (started : os.Started) (H : Type) (enc : TypeId × Value → H) :
    ReturnsInHanded {} Tryz.checked os 3 .any (fun w args => (Rows.fnVersionReadSpec.pre enc Tryz.prog Tryz.f3 [] false w args ∧ laidMetH Tryz.prog laid4 w) ∧ sizedMet enc Tryz.prog Tryz.f3 (OpenSpec.ofChange Rows.fnVersionReadSpec) false w args)
      (Rows.fnVersionReadSpec.post enc Tryz.prog Tryz.f3 false true false false) := by
  refine returnsInHanded_of_change_and (C := Tryz.checked) (X := fun w _ => laidMetH Tryz.prog laid4 w) (fun _ _ _ hh h => h.of_heap hh) own_ started (by kernel_rfl) Tryz.func3
    (ChangeSpec.witness_shaped (enc := enc) (C := Tryz.checked) (os := os) (X := fun w _ => laidMetH Tryz.prog laid4 w) false (World.doorLaid Tryz.prog 400 os) #[.slice none 0 0, .slice none 0 0, .bool false] 8 rfl (World.shaped_of_RefB (by kernel_rfl) (by kernel_rfl)) (by kernel_rfl) (by kernel_rfl) (by kernel_rfl) (door_met os _)) ?_
  intro W base args ds gs before hval0 hW _ _ hL _
  have hval : ∀ (j : Nat) t v, Tryz.f3.params[j]? = some t → args[j]? = some v → Value.okWide Tryz.prog W .any base t v := hval0
  have hW' := hW
  obtain ⟨p, q, hA0, hV0, rfl, hfz, hnd⟩ := hW
  have hA : DataW.TrodAll enc Tryz.prog W 0 (fun _ => true) true Tryz.f3.params.toList args.toList ds p := hA0
  have hV : DataW.TrodVars enc Tryz.prog W (fun _ => true) ["given.example/pub-passwright/pub/ssh.certKeyAlgoNames"] gs q := hV0
  rw [Tryz.params3] at hA hval
  obtain ⟨v0, v1, v2, d0, d1, d2, p0, p1, p2, hargs, rfl, rfl, h0, h1, h2⟩ := trodAll_three hA
  obtain rfl : args = #[v0, v1, v2] := by cases args; simp_all
  obtain ⟨g1, rfl⟩ : ∃ g1, gs = [g1] := by obtain ⟨g, t, cs, fuel, d, p', rfl, _⟩ := trodVars_one hV; exact ⟨d, rfl⟩
  obtain ⟨T, u, he⟩ := eof_of_laid hL
  have k0 := h0
  have k1 := h1
  have lt0 : ∀ x ∈ p0, x.block < W.heap.size := by obtain ⟨m, hm⟩ := k0; exact DataW.trod_lt m _ _ _ hm
  have lt1 : ∀ x ∈ p1, x.block < W.heap.size := by obtain ⟨m, hm⟩ := k1; exact DataW.trod_lt m _ _ _ hm
  obtain ⟨f0, r0⟩ := h0
  obtain ⟨f1, r1⟩ := h1
  obtain ⟨A0, len0, cap0, rfl⟩ := okWide_slice Tryz.underlying22 (hval 0 22 v0 rfl rfl)
  obtain ⟨A1, len1, cap1, rfl⟩ := okWide_slice Tryz.underlying23 (hval 1 23 v1 rfl rfl)
  obtain ⟨last, rfl, rfl, rfl⟩ := open_bool Tryz.underlying4 (hval 2 4 v2 rfl rfl) h2
  obtain ⟨cl, ⟨B0, c0, e0, m0, n0, R0⟩, _⟩ := SL_of_trod (R := lit strV) (Q := fun _ => True) Tryz.underlying22 (by kernel_rfl) el_str (by simpa [Value.cells] using r0)
  obtain ⟨sv, ⟨B1, c1, e1, m1, n1, R1⟩, _⟩ := SL_of_trod (R := lit Value.bool) (Q := fun _ => True) Tryz.underlying23 (by kernel_rfl) el_bool (by simpa [Value.cells] using r1)
  clear hA0 hval0
  injection e0 with e01 e02 e03
  injection e1 with e11 e12 e13
  subst e01 e02 e03 e11 e12 e13
  refine (fnversion_walk W _ _ _ _ cl sv last (by omega) (by omega) R0 R1 T u he).mono fun e W' ⟨he', bel⟩ => ?_
  subst he'
  exact ⟨_, rfl, _, _, _, [], _, _, hW', trodAll_mk1 (shut_bool Tryz.underlying4 _),
    (trodAll_mk3 (Below.trod laidOut_ (by kernel_rfl) (of_decide_eq_true (by kernel_rfl)) k0 bel lt0) (Below.trod laidOut_ (by kernel_rfl) (of_decide_eq_true (by kernel_rfl)) k1 bel lt1) (shut_bool Tryz.underlying4 _)), Below.trodVars laidOut_ bel varsRowed_ hV, bel.frame _, fun h => by cases h⟩

theorem over : Rows.fnVersionReadRow.holds Tryz.pinned (OpenSpec.ofChange Rows.fnVersionReadSpec) :=
  OpenClaim.holds_of_wide 3 Tryz.f3 rfl rfl rfl rfl rfl rfl rfl ⟨rfl, rfl, rfl, rfl, rfl⟩ rfl rfl rfl rfl rfl (by kernel_rfl) Tryz.func3 (by kernel_rfl)
    (of_decide_eq_true (by kernel_rfl)) (by unfold Func.isWrapper; first | (rw [if_pos (by decide +kernel)]; kernel_rfl) | (rw [if_neg (by decide +kernel)]; exact ⟨rfl, rfl⟩))
    (fun os started H enc _ => lifted os started H enc)

end Go.Proofs.YtmblpmmnglmjfaaGreatDoor.rowVe
namespace Go.Proofs.YtmblpmmnglmjfaaGreatDoor
theorem fnVersionRead_holds : Rows.FnVersionReadCardSaid :=
  Claim7.holds_tied_plain_at .later [] [.sentinel, .sentinel, .sentinel, .data] true (true, "f58b1262bf178b28991785861ef2e7e8bd3629fad59bca68ebcb76688c153f6f") true
    rowVe.over (fun _ h => by cases h) (by kernel_rfl) (fun _ h => by cases h) fnVersionRead_row_tie rfl ⟨rfl, rfl⟩ (by kernel_rfl) rfl
    (fun f fn hf hfn => by
      obtain rfl : f = 3 := Option.some.inj ((show Tryz.prog.funcNamed "given.example/pub-passwright/laws.FnVersionRead" = some 3 by kernel_rfl).symm.trans hf) |>.symm
      obtain rfl : fn = Tryz.f3 := (Option.some.inj (Tryz.func3.symm.trans hfn)).symm
      exact ⟨by kernel_rfl, fun j t ht => by
        rw [Tryz.params3] at ht
        have hm : t ∈ [22, 23, 4] := by simpa using Array.mem_of_getElem? ht
        have hall : ([22, 23, 4].all fun u => !Tryz.prog.wantsStandIn u) = true := by kernel_rfl
        exact (show Tryz.prog.wantsStandIn t = false by simpa using List.all_eq_true.1 hall t hm)⟩)
    (by kernel_rfl)
#print axioms fnVersionRead_holds
end Go.Proofs.YtmblpmmnglmjfaaGreatDoor
