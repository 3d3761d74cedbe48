/- Proved: 'Rows.FnNormalizedCardSaid': laws.FnNormalized returns true at every input, and its arguments read as they did. The listed package variable (ssh's table of certificates' names) holds what the program's text lays in it: the card ties that. -/
import Derived.Test.YtoeepfmmceilaaaGreatDoorCards
import Derived.Test.YtoeepfmmceilaaaGreatDoorTie
import Derived.Test.YtoeepfmmceilaaaGreatDoorLnFnN
import Derived.ProofKit
import Derived.LaidMore
import Derived.OpenVars
import Derived.Stop.LaidTwo
import Derived.Stop.Joined
import Derived.SevenTiedAt
import Derived.ChangeOld
import Derived.Below
import Derived.Carry
namespace Go.Proofs.YtoeepfmmceilaaaGreatDoor.rowNo
open Go.ChangeShapes Go.WideShapes Go.ChangeAt Go.RowKit
open Go.ChangeMaps (open_string shut_string)
set_option linter.unusedVariables false

abbrev laid1 : List (String × DataW Unit) := [("given.example/pub-passwright/pub/ssh.certKeyAlgoNames", Rows.laid_given_example_pub_passwright_pub_ssh_certKeyAlgoNames)]
/-- The door's own heap meets the condition. -/
theorem door_met (os : Os) (args : Array Value) : laidMetH Tryz.prog laid1 ((World.doorLaid Tryz.prog 400 os).forCall (fun _ _ => 0) ⟨#[], args, []⟩).memory :=
  laidMetH_of_parts3 (fuel := 8) (laidMet_of_run' 8 (by kernel_rfl) (by kernel_rfl)) (by kernel_rfl) (by kernel_rfl)
theorem own_ : ownKnob Tryz.prog.godebug = none := by kernel_rfl
theorem laidOut_ : laidOutB Tryz.prog = true := by kernel_rfl
theorem varsRowed_ : varsRowed Tryz.prog ["given.example/pub-passwright/pub/ssh.certKeyAlgoNames"] = true := by kernel_rfl

set_option maxRecDepth 100000 in
set_option maxHeartbeats 1600000 in
theorem lifted (os : Os) (started : os.Started) (H : Type) (enc : TypeId × Value → H) :
    ReturnsInHanded {} Tryz.checked os 4 .any (fun w args => (Rows.fnNormalizedSpec.pre enc Tryz.prog Tryz.f4 [] false w args ∧ laidMetH Tryz.prog laid1 w) ∧ sizedMet enc Tryz.prog Tryz.f4 (OpenSpec.ofChange Rows.fnNormalizedSpec) false w args)
      (Rows.fnNormalizedSpec.post enc Tryz.prog Tryz.f4 false true false false) := by
  refine returnsInHanded_of_change_and (C := Tryz.checked) (X := fun w _ => laidMetH Tryz.prog laid1 w) (fun _ _ _ hh h => h.of_heap hh) own_ started (by kernel_rfl) Tryz.func4
    (ChangeSpec.witness_shaped (enc := enc) (C := Tryz.checked) (os := os) (X := fun w _ => laidMetH Tryz.prog laid1 w) false (World.doorLaid Tryz.prog 400 os) #[.string ⟨#[]⟩, .int .u16 0, .bool false, .bool false] 8 rfl (World.shaped_of_RefB (by kernel_rfl) (by kernel_rfl)) (by kernel_rfl) (by kernel_rfl) (by kernel_rfl) (door_met os _)) ?_
  intro W base args ds gs before hval0 hW _ _ hL _
  have hval : ∀ (j : Nat) t v, Tryz.f4.params[j]? = some t → args[j]? = some v → Value.okWide Tryz.prog W .any base t v := hval0
  have hW' := hW
  obtain ⟨p, q, hA0, hV0, rfl, hfz, hnd⟩ := hW
  have hA : DataW.TrodAll enc Tryz.prog W 0 (fun _ => true) true Tryz.f4.params.toList args.toList ds p := hA0
  have hV : DataW.TrodVars enc Tryz.prog W (fun _ => true) ["given.example/pub-passwright/pub/ssh.certKeyAlgoNames"] gs q := hV0
  rw [Tryz.params4] at hA hval
  obtain ⟨v0, v1, v2, v3, d0, d1, d2, d3, p0, p1, p2, p3, hargs, rfl, rfl, h0, h1, h2, h3⟩ := trodAll_four hA
  subst hargs
  obtain ⟨g1, rfl⟩ : ∃ g1, gs = [g1] := by obtain ⟨g, t, cs, fuel, d, p', rfl, _⟩ := trodVars_one hV; exact ⟨d, rfl⟩
  obtain ⟨s, rfl, rfl, rfl, ws⟩ := open_string Tryz.underlying9 (hval 0 9 v0 rfl rfl) h0
  obtain ⟨n, rfl, rfl, rfl, wn⟩ := open_int Tryz.underlying36 (hval 1 36 v1 rfl rfl) h1
  obtain ⟨b2, rfl, rfl, rfl⟩ := open_bool Tryz.underlying4 (hval 2 4 v2 rfl rfl) h2
  obtain ⟨b3, rfl, rfl, rfl⟩ := open_bool Tryz.underlying4 (hval 3 4 v3 rfl rfl) h3
  clear hA0 hval0
  have hs : s = ⟨s.data.toList.toArray⟩ := by cases s; simp
  have hn : 0 ≤ n ∧ n < 65536 := by
    have h9 : (decide (IntKind.u16.min ≤ n) && decide (n ≤ IntKind.u16.max)) = true := wn
    rw [Bool.and_eq_true, decide_eq_true_eq, decide_eq_true_eq] at h9
    have e1 : IntKind.u16.min = 0 := by decide
    have e2 : IntKind.u16.max = 65535 := by decide
    rw [e1, e2] at h9
    omega
  obtain ⟨q, rfl⟩ : ∃ q : Nat, n = (q : Int) := ⟨n.toNat, by omega⟩
  have HW := fn_normalized s.data.toList q b2 b3 W (by omega)
  rw [← hs] at HW
  refine HW.mono fun e W' ⟨he', bel⟩ => ?_
  subst he'
  exact ⟨_, rfl, _, _, _, [], _, _, hW', trodAll_mk1 (shut_bool Tryz.underlying4 _),
    (trodAll_mk4 (shut_string Tryz.underlying9 ws) (shut_int Tryz.underlying36 wn) (shut_bool Tryz.underlying4 _) (shut_bool Tryz.underlying4 _)), Below.trodVars laidOut_ bel varsRowed_ hV, bel.frame _, fun h => by cases h⟩

theorem over : Rows.fnNormalizedRow.holds Tryz.pinned (OpenSpec.ofChange Rows.fnNormalizedSpec) :=
  OpenClaim.holds_of_wide 4 Tryz.f4 rfl rfl rfl rfl rfl rfl rfl ⟨rfl, rfl, rfl, rfl, rfl⟩ rfl rfl rfl rfl rfl (by kernel_rfl) Tryz.func4 (by kernel_rfl)
    (of_decide_eq_true (by kernel_rfl)) (by unfold Func.isWrapper; first | (rw [if_pos (by decide +kernel)]; kernel_rfl) | (rw [if_neg (by decide +kernel)]; exact ⟨rfl, rfl⟩))
    (fun os started H enc _ => lifted os started H enc)

end Go.Proofs.YtoeepfmmceilaaaGreatDoor.rowNo
namespace Go.Proofs.YtoeepfmmceilaaaGreatDoor
theorem fnNormalized_holds : Rows.FnNormalizedCardSaid :=
  Claim7.holds_tied_plain_at .later [] [.data] true (true, "4b61e1954e58a2d28b661b10691aebc225c8c52c18cac63234e0b7468cda06e3") true
    rowNo.over (fun _ h => by cases h) (by kernel_rfl) (fun _ h => by cases h) fnNormalized_row_tie rfl ⟨rfl, rfl⟩ (by kernel_rfl) rfl
    (fun f fn hf hfn => by
      obtain rfl : f = 4 := Option.some.inj ((show Tryz.prog.funcNamed "given.example/pub-passwright/laws.FnNormalized" = some 4 by kernel_rfl).symm.trans hf) |>.symm
      obtain rfl : fn = Tryz.f4 := (Option.some.inj (Tryz.func4.symm.trans hfn)).symm
      exact ⟨by kernel_rfl, fun j t ht => by
        rw [Tryz.params4] at ht
        have hm : t ∈ [9, 36, 4, 4] := by simpa using Array.mem_of_getElem? ht
        have hall : ([9, 36, 4, 4].all fun u => !Tryz.prog.wantsStandIn u) = true := by kernel_rfl
        exact (show Tryz.prog.wantsStandIn t = false by simpa using List.all_eq_true.1 hall t hm)⟩)
    (by kernel_rfl)
#print axioms fnNormalized_holds
end Go.Proofs.YtoeepfmmceilaaaGreatDoor
