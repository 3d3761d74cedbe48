/- Proved: 'Rows.FnLineWrittenCardSaid': laws.FnLineWritten returns true at every input, and its argument reads as it did. The listed package variables (bytes.ErrTooLarge, ssh's table of certificates' names) hold what the program's text lays in them: the card ties that. -/
import Derived.Test.YtoeepfmmceilaaaGreatDoorCards
import Derived.Test.YtoeepfmmceilaaaGreatDoorTie
import Derived.Test.YtoeepfmmceilaaaGreatDoorLnFnW
import Derived.Test.YtoeepfmmceilaaaGreatDoorLnArgs
import Derived.ProofKit
import Derived.LaidMore
import Derived.OpenVars
import Derived.Stop.LaidTwo
import Derived.Stop.Joined
import Derived.SevenTiedAt
import Derived.ChangeOld
import Derived.Below
import Derived.Carry
namespace Go.Proofs.YtoeepfmmceilaaaGreatDoor.rowLw
open Go.ChangeShapes Go.WideShapes Go.ChangeAt Go.RowKit
open Go.ChangeMaps (open_string shut_string)
set_option linter.unusedVariables false

abbrev laid1 : List (String × DataW Unit) := [("bytes.ErrTooLarge", Rows.laid_bytes_ErrTooLarge), ("given.example/pub-passwright/pub/ssh.certKeyAlgoNames", Rows.laid_given_example_pub_passwright_pub_ssh_certKeyAlgoNames)]
/-- The door's own heap meets the condition. -/
theorem door_met (os : Os) (args : Array Value) : laidMetH Tryz.prog laid1 ((World.doorLaid Tryz.prog 400 os).forCall (fun _ _ => 0) ⟨#[], args, []⟩).memory :=
  laidMetH_of_parts3 (fuel := 8) (laidMet_of_run' 8 (by kernel_rfl) (by kernel_rfl)) (by kernel_rfl) (by kernel_rfl)
theorem own_ : ownKnob Tryz.prog.godebug = none := by kernel_rfl
theorem laidOut_ : laidOutB Tryz.prog = true := by kernel_rfl
theorem varsRowed_ : varsRowed Tryz.prog ["given.example/pub-passwright/pub/ssh.certKeyAlgoNames"] = true := by kernel_rfl

set_option maxRecDepth 100000 in
set_option maxHeartbeats 1600000 in
theorem lifted (os : Os) (started : os.Started) (H : Type) (enc : TypeId × Value → H) :
    ReturnsInHanded {} Tryz.checked os 7 .any (fun w args => (Rows.fnLineWrittenSpec.pre enc Tryz.prog Tryz.f7 [] false w args ∧ laidMetH Tryz.prog laid1 w) ∧ sizedMet enc Tryz.prog Tryz.f7 (OpenSpec.ofChange Rows.fnLineWrittenSpec) false w args)
      (Rows.fnLineWrittenSpec.post enc Tryz.prog Tryz.f7 false true false false) := by
  refine returnsInHanded_of_change_and (C := Tryz.checked) (X := fun w _ => laidMetH Tryz.prog laid1 w) (fun _ _ _ hh h => h.of_heap hh) own_ started (by kernel_rfl) Tryz.func7
    (ChangeSpec.witness_shaped (enc := enc) (C := Tryz.checked) (os := os) (X := fun w _ => laidMetH Tryz.prog laid1 w) false (World.doorLaid Tryz.prog 400 os) #[.agg #[.int .i64 0, .slice none 0 0, .string ⟨#[]⟩, .slice none 0 0, .slice none 0 0]] 8 rfl (World.shaped_of_RefB (by kernel_rfl) (by kernel_rfl)) (by kernel_rfl) (by kernel_rfl) (by kernel_rfl) (door_met os _)) ?_
  intro W base args ds gs before hval0 hW _ _ hL _
  have hval : ∀ (j : Nat) t v, Tryz.f7.params[j]? = some t → args[j]? = some v → Value.okWide Tryz.prog W .any base t v := hval0
  have hW' := hW
  obtain ⟨p, q, hA0, hV0, rfl, hfz, hnd⟩ := hW
  have hA : DataW.TrodAll enc Tryz.prog W 0 (fun _ => true) true Tryz.f7.params.toList args.toList ds p := hA0
  have hV : DataW.TrodVars enc Tryz.prog W (fun _ => true) ["given.example/pub-passwright/pub/ssh.certKeyAlgoNames"] gs q := hV0
  rw [Tryz.params7] at hA hval
  obtain ⟨v0, d0, hargs, rfl, h0⟩ := trodAll_one hA
  subst hargs
  obtain ⟨g1, rfl⟩ : ∃ g1, gs = [g1] := by obtain ⟨g, t, cs, fuel, d, p', rfl, _⟩ := trodVars_one hV; exact ⟨d, rfl⟩
  have k0 := h0
  have lt0 : ∀ x ∈ p, x.block < W.heap.size := by obtain ⟨m, hm⟩ := k0; exact DataW.trod_lt m _ _ _ hm
  obtain ⟨K, hK⟩ := key_of_trod (hval 0 44 v0 rfl rfl) h0
  clear hA0 hval0
  refine (fn_lineWritten v0 K W hK).mono fun e W' ⟨he', bel⟩ => ?_
  subst he'
  exact ⟨_, rfl, _, _, _, [], _, _, hW', trodAll_mk1 (shut_bool Tryz.underlying4 _),
    (trodAll_mk1 (Below.trod laidOut_ (by kernel_rfl) (of_decide_eq_true (by kernel_rfl)) k0 bel lt0)), Below.trodVars laidOut_ bel varsRowed_ hV, bel.frame _, fun h => by cases h⟩

theorem over : Rows.fnLineWrittenRow.holds Tryz.pinned (OpenSpec.ofChange Rows.fnLineWrittenSpec) :=
  OpenClaim.holds_of_wide 7 Tryz.f7 rfl rfl rfl rfl rfl rfl rfl ⟨rfl, rfl, rfl, rfl, rfl⟩ rfl rfl rfl rfl rfl (by kernel_rfl) Tryz.func7 (by kernel_rfl)
    (of_decide_eq_true (by kernel_rfl)) (by unfold Func.isWrapper; first | (rw [if_pos (by decide +kernel)]; kernel_rfl) | (rw [if_neg (by decide +kernel)]; exact ⟨rfl, rfl⟩))
    (fun os started H enc _ => lifted os started H enc)

end Go.Proofs.YtoeepfmmceilaaaGreatDoor.rowLw
namespace Go.Proofs.YtoeepfmmceilaaaGreatDoor
theorem fnLineWritten_holds : Rows.FnLineWrittenCardSaid :=
  Claim7.holds_tied_plain_at .later [] [.sentinel, .data] true (true, "4b61e1954e58a2d28b661b10691aebc225c8c52c18cac63234e0b7468cda06e3") true
    rowLw.over (fun _ h => by cases h) (by kernel_rfl) (fun _ h => by cases h) fnLineWritten_row_tie rfl ⟨rfl, rfl⟩ (by kernel_rfl) rfl
    (fun f fn hf hfn => by
      obtain rfl : f = 7 := Option.some.inj ((show Tryz.prog.funcNamed "given.example/pub-passwright/laws.FnLineWritten" = some 7 by kernel_rfl).symm.trans hf) |>.symm
      obtain rfl : fn = Tryz.f7 := (Option.some.inj (Tryz.func7.symm.trans hfn)).symm
      exact ⟨by kernel_rfl, fun j t ht => by
        rw [Tryz.params7] at ht
        have hm : t ∈ [44] := by simpa using Array.mem_of_getElem? ht
        have hall : ([44].all fun u => !Tryz.prog.wantsStandIn u) = true := by kernel_rfl
        exact (show Tryz.prog.wantsStandIn t = false by simpa using List.all_eq_true.1 hall t hm)⟩)
    (by kernel_rfl)
#print axioms fnLineWritten_holds
end Go.Proofs.YtoeepfmmceilaaaGreatDoor
