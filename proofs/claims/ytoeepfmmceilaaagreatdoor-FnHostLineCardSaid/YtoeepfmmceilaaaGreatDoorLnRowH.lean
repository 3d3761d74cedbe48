/- Proved: 'Rows.FnHostLineCardSaid': laws.FnHostLine returns true at every input, and its arguments read as they did. The listed package variable (ssh's table of certificates' names) holds what the program's text lays in it: the card ties that. -/
import Derived.Test.YtoeepfmmceilaaaGreatDoorCards
import Derived.Test.YtoeepfmmceilaaaGreatDoorTie
import Derived.Test.YtoeepfmmceilaaaGreatDoorLnFnH
import Derived.Test.YtoeepfmmceilaaaGreatDoorLnArgs
import Derived.ProofKit
import Derived.LaidMore
import Derived.OpenVars
import Derived.Stop.LaidTwo
import Derived.Stop.Joined
import Derived.SevenTiedAt
import Derived.ChangeOld
import Derived.Below
import Derived.Carry
namespace Go.Proofs.YtoeepfmmceilaaaGreatDoor.rowHl
open Go.ChangeShapes Go.WideShapes Go.ChangeAt Go.RowKit
open Go.ChangeMaps (open_string shut_string)
set_option linter.unusedVariables false

theorem el_u16 {H : Type} {enc : TypeId × Value → H} {w : World} {spare : Nat → Bool} {held : Bool} (fuel : Nat) (v : Value) (y : DataW H × List MemPlace) (h : DataW.trod enc Tryz.prog w 0 spare held fuel 36 [v] = some y) : ∃ x : Nat, lit u16V all_ w v x ∧ x < 65536 := by
  obtain ⟨n, hv, _, wn⟩ := DataW.trod_int Tryz.underlying36 h
  obtain rfl : v = .int .u16 n := by simpa using hv
  have hn : 0 ≤ n ∧ n < 65536 := by
    have h9 : (decide (IntKind.u16.min ≤ n) && decide (n ≤ IntKind.u16.max)) = true := wn
    rw [Bool.and_eq_true, decide_eq_true_eq, decide_eq_true_eq] at h9
    have e1 : IntKind.u16.min = 0 := by decide
    have e2 : IntKind.u16.max = 65535 := by decide
    rw [e1, e2] at h9
    omega
  exact ⟨n.toNat, by show _ = Value.int .u16 _; rw [Int.toNat_of_nonneg hn.1], by omega⟩
abbrev laid1 : List (String × DataW Unit) := [("given.example/pub-passwright/pub/ssh.certKeyAlgoNames", Rows.laid_given_example_pub_passwright_pub_ssh_certKeyAlgoNames)]
/-- The door's own heap meets the condition. -/
theorem door_met (os : Os) (args : Array Value) : laidMetH Tryz.prog laid1 ((World.doorLaid Tryz.prog 400 os).forCall (fun _ _ => 0) ⟨#[], args, []⟩).memory :=
  laidMetH_of_parts3 (fuel := 8) (laidMet_of_run' 8 (by kernel_rfl) (by kernel_rfl)) (by kernel_rfl) (by kernel_rfl)
theorem own_ : ownKnob Tryz.prog.godebug = none := by kernel_rfl
theorem laidOut_ : laidOutB Tryz.prog = true := by kernel_rfl
theorem varsRowed_ : varsRowed Tryz.prog ["given.example/pub-passwright/pub/ssh.certKeyAlgoNames"] = true := by kernel_rfl

set_option maxRecDepth 100000 in
set_option maxHeartbeats 1600000 in
theorem lifted (os : Os) (started : os.Started) (H : Type) (enc : TypeId × Value → H) :
    ReturnsInHanded {} Tryz.checked os 6 .any (fun w args => (Rows.fnHostLineSpec.pre enc Tryz.prog Tryz.f6 [] false w args ∧ laidMetH Tryz.prog laid1 w) ∧ sizedMet enc Tryz.prog Tryz.f6 (OpenSpec.ofChange Rows.fnHostLineSpec) false w args)
      (Rows.fnHostLineSpec.post enc Tryz.prog Tryz.f6 false true false false) := by
  refine returnsInHanded_of_change_and (C := Tryz.checked) (X := fun w _ => laidMetH Tryz.prog laid1 w) (fun _ _ _ hh h => h.of_heap hh) own_ started (by kernel_rfl) Tryz.func6
    (ChangeSpec.witness_shaped (enc := enc) (C := Tryz.checked) (os := os) (X := fun w _ => laidMetH Tryz.prog laid1 w) false (World.doorLaid Tryz.prog 400 os) #[.slice none 0 0, .slice none 0 0, .agg #[.int .i64 0, .slice none 0 0, .string ⟨#[]⟩, .slice none 0 0, .slice none 0 0]] 8 rfl (World.shaped_of_RefB (by kernel_rfl) (by kernel_rfl)) (by kernel_rfl) (by kernel_rfl) (by kernel_rfl) (door_met os _)) ?_
  intro W base args ds gs before hval0 hW _ _ hL _
  have hval : ∀ (j : Nat) t v, Tryz.f6.params[j]? = some t → args[j]? = some v → Value.okWide Tryz.prog W .any base t v := hval0
  have hW' := hW
  obtain ⟨p, q, hA0, hV0, rfl, hfz, hnd⟩ := hW
  have hA : DataW.TrodAll enc Tryz.prog W 0 (fun _ => true) true Tryz.f6.params.toList args.toList ds p := hA0
  have hV : DataW.TrodVars enc Tryz.prog W (fun _ => true) ["given.example/pub-passwright/pub/ssh.certKeyAlgoNames"] gs q := hV0
  rw [Tryz.params6] at hA hval
  obtain ⟨v0, v1, v2, d0, d1, d2, p0, p1, p2, hargs, rfl, rfl, h0, h1, h2⟩ := trodAll_three hA
  obtain rfl : args = #[v0, v1, v2] := by cases args; simp_all
  obtain ⟨g1, rfl⟩ : ∃ g1, gs = [g1] := by obtain ⟨g, t, cs, fuel, d, p', rfl, _⟩ := trodVars_one hV; exact ⟨d, rfl⟩
  have k0 := h0
  have k1 := h1
  have k2 := h2
  have lt0 : ∀ x ∈ p0, x.block < W.heap.size := by obtain ⟨m, hm⟩ := k0; exact DataW.trod_lt m _ _ _ hm
  have lt1 : ∀ x ∈ p1, x.block < W.heap.size := by obtain ⟨m, hm⟩ := k1; exact DataW.trod_lt m _ _ _ hm
  have lt2 : ∀ x ∈ p2, x.block < W.heap.size := by obtain ⟨m, hm⟩ := k2; exact DataW.trod_lt m _ _ _ hm
  obtain ⟨K, hK⟩ := key_of_trod (hval 2 44 v2 rfl rfl) h2
  obtain ⟨f0, r0⟩ := h0
  obtain ⟨f1, r1⟩ := h1
  obtain ⟨A0, len0, cap0, rfl⟩ := okWide_slice Tryz.underlying27 (hval 0 27 v0 rfl rfl)
  obtain ⟨A1, len1, cap1, rfl⟩ := okWide_slice Tryz.underlying42 (hval 1 42 v1 rfl rfl)
  obtain ⟨hs, ⟨B0, c0, e0, m0, n0, R0⟩, _⟩ := SL_of_trod (R := lit strV) (Q := fun _ => True) Tryz.underlying27 (by kernel_rfl) el_str (by simpa [Value.cells] using r0)
  obtain ⟨ps, ⟨B1, c1, e1, m1, n1, R1⟩, hpb⟩ := SL_of_trod (R := lit u16V) (Q := fun p => p < 65536) Tryz.underlying42 (by kernel_rfl) el_u16 (by simpa [Value.cells] using r1)
  clear hA0 hval0
  injection e0 with e01 e02 e03
  injection e1 with e11 e12 e13
  subst e01 e02 e03 e11 e12 e13
  refine (fn_hostLine _ _ _ _ hs ps v2 K W (by omega) (by omega) hpb R0 R1 hK).mono fun e W' ⟨he', bel⟩ => ?_
  subst he'
  exact ⟨_, rfl, _, _, _, [], _, _, hW', trodAll_mk1 (shut_bool Tryz.underlying4 _),
    (trodAll_mk3 (Below.trod laidOut_ (by kernel_rfl) (of_decide_eq_true (by kernel_rfl)) k0 bel lt0) (Below.trod laidOut_ (by kernel_rfl) (of_decide_eq_true (by kernel_rfl)) k1 bel lt1) (Below.trod laidOut_ (by kernel_rfl) (of_decide_eq_true (by kernel_rfl)) k2 bel lt2)), Below.trodVars laidOut_ bel varsRowed_ hV, bel.frame _, fun h => by cases h⟩

theorem over : Rows.fnHostLineRow.holds Tryz.pinned (OpenSpec.ofChange Rows.fnHostLineSpec) :=
  OpenClaim.holds_of_wide 6 Tryz.f6 rfl rfl rfl rfl rfl rfl rfl ⟨rfl, rfl, rfl, rfl, rfl⟩ rfl rfl rfl rfl rfl (by kernel_rfl) Tryz.func6 (by kernel_rfl)
    (of_decide_eq_true (by kernel_rfl)) (by unfold Func.isWrapper; first | (rw [if_pos (by decide +kernel)]; kernel_rfl) | (rw [if_neg (by decide +kernel)]; exact ⟨rfl, rfl⟩))
    (fun os started H enc _ => lifted os started H enc)

end Go.Proofs.YtoeepfmmceilaaaGreatDoor.rowHl
namespace Go.Proofs.YtoeepfmmceilaaaGreatDoor
theorem fnHostLine_holds : Rows.FnHostLineCardSaid :=
  Claim7.holds_tied_plain_at .later [] [.data] true (true, "4b61e1954e58a2d28b661b10691aebc225c8c52c18cac63234e0b7468cda06e3") true
    rowHl.over (fun _ h => by cases h) (by kernel_rfl) (fun _ h => by cases h) fnHostLine_row_tie rfl ⟨rfl, rfl⟩ (by kernel_rfl) rfl
    (fun f fn hf hfn => by
      obtain rfl : f = 6 := Option.some.inj ((show Tryz.prog.funcNamed "given.example/pub-passwright/laws.FnHostLine" = some 6 by kernel_rfl).symm.trans hf) |>.symm
      obtain rfl : fn = Tryz.f6 := (Option.some.inj (Tryz.func6.symm.trans hfn)).symm
      exact ⟨by kernel_rfl, fun j t ht => by
        rw [Tryz.params6] at ht
        have hm : t ∈ [27, 42, 44] := by simpa using Array.mem_of_getElem? ht
        have hall : ([27, 42, 44].all fun u => !Tryz.prog.wantsStandIn u) = true := by kernel_rfl
        exact (show Tryz.prog.wantsStandIn t = false by simpa using List.all_eq_true.1 hall t hm)⟩)
    (by kernel_rfl)
#print axioms fnHostLine_holds
end Go.Proofs.YtoeepfmmceilaaaGreatDoor
