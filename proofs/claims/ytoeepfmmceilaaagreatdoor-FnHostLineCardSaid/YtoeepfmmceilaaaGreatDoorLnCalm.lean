/- impl.calm of a function that does not panic: true, and what the function has done. -/
import Derived.Test.YtoeepfmmceilaaaGreatDoorLnBytes
import Derived.Defers
import Derived.Recover
set_option linter.unusedVariables false
set_option linter.unusedSimpArgs false
namespace Go.Proofs.YtoeepfmmceilaaaGreatDoor
open Go.RowKit

theorem calm_idle (p : Addr) (w : World) :
    CallsD Tryz.prog 57 #[.pointer (some p)] .returning w fun e u' w' => e = .returned (.tuple #[]) ∧ u' = .returning ∧ w' = w := by
  refine callsD_of_wpS Tryz.func57 rfl fun c₀ cs hu => ?_
  apply wpS_seq
  apply wpS_region
  simp [wpOpsS, go_sem, recoverD, hu, Tryz.ntmps57, Exit.thenS]
  refine wpS_cond (t := false) (by simp [Act.eval, Array.replicate]) ?_
  simp only [Bool.false_eq_true, if_false]
  refine wpS_of_wp (wp_skip ?_)
  cases c₀
  simp_all [bodyPostS, results, Tryz.results57]
theorem calm_walk (G : Nat) (caps : Array Value) (w : World) (Q : World → Prop)
    (hcf : ∀ W : World, (callFunc G caps).run Tryz.prog W = .ok (.enter G caps) W)
    (hg : Calls Tryz.prog G caps (w.alloc (.cells #[.bool false] 4)) fun e w' => e = .returned (.tuple #[]) ∧ w'.cell? ⟨w.heap.size, 0, none⟩ = some (.bool false) ∧ w'.frozen? ⟨w.heap.size, 0, none⟩ = false ∧ Q w') :
    Calls Tryz.prog 35 #[.func (.func G) #[] caps] w fun e w' => e = .returned (.bool true) ∧ ∃ w1, Q w1 ∧ w' = w1.setCell ⟨w.heap.size, 0, none⟩ (.bool true) := by
  have HG := Lib.hid hg
  have hmf : ∀ (fn : Fn) (first cap : Array Value) (w : World), (Instr.makeFunc fn first cap).run Tryz.prog w = .ok (.func fn first cap) w := fun _ _ _ _ => rfl
  clear hg
  go_enter_defers Tryz.func35, Tryz.ntmps35
  go_wp2_with (refine HG.out.mono ?_; rintro e w1 ⟨rfl, hc1, hfr1, hq⟩; have HQ := Lib.hid hq; clear hq)
  refine leaves_cons (f := 57) (args := #[.pointer (some ⟨w.heap.size, 0, none⟩)]) (by simp) (by simp [go_sem]) ?_
  refine (calm_idle ⟨w.heap.size, 0, none⟩ _).mono ?_
  rintro e u' w'' ⟨rfl, rfl, rfl⟩
  simp [Leaves, settle, results, Tryz.results35, go_sem, hc1, hfr1]
  exact ⟨w1, HQ.out, rfl⟩

end Go.Proofs.YtoeepfmmceilaaaGreatDoor
