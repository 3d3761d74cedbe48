/- ssh.zzInit, ssh.ZzAgreed, impl.AgreedOn: what two ends agree on by their lists. -/
import Derived.Test.YtmblpmmnglmjfaaGreatDoorAgAlg
import Derived.Test.YtmblpmmnglmjfaaGreatDoorAgCalm
import Derived.StillTailTactics
set_option linter.unusedVariables false
set_option linter.unusedSimpArgs false
namespace Go.Proofs.YtmblpmmnglmjfaaGreatDoor
open Go.RowKit

/-- One list among the ten. -/
structure In1 (w : World) (ad : Addr) (i : Nat) (c : List (List UInt8)) (A : Option Addr) (a : Nat) : Prop where
  cell : w.cell? (ad.add i) = some (.slice A c.length a)
  rr : RR (lit strV) (fun b => b < w.heap.size) w A c
  le : c.length ≤ 1000
theorem In1.below {w w' : World} {ad : Addr} {i : Nat} {c : List (List UInt8)} {A : Option Addr} {a : Nat} (h : In1 w ad i c A a) (hb : Below w.heap.size w w') : In1 w' ad i c A a :=
  ⟨(hb.cell (blk_lt_of_cell h.cell)).trans h.cell, (RR.keep h.rr (lit_steady _) (Keep.of_below hb)).mono (lit_steady _) (fun b _ hb' => Nat.lt_of_lt_of_le hb' hb.size), h.le⟩

set_option maxRecDepth 100000 in
set_option maxHeartbeats 3200000 in
theorem init_any (w : World) (ad : Addr) (cap : Nat) (A : Nat → Option Addr) (a : Nat → Nat) (c : Nat → List (List UInt8)) (h : ∀ i, i < 10 → In1 w ad i (c i) (A i) (a i)) :
    Calls Tryz.prog 28 #[.slice (some ad) 10 cap] w fun e w' => e = .returned (.pointer (some ⟨w.heap.size, 0, none⟩)) ∧ Below w.heap.size w w' ∧ ∀ i, i < 10 → w'.cell? ⟨w.heap.size, 16 + i, none⟩ = some (.slice (A i) (c i).length (a i)) := by
  have h0 : w.cell? ad = some (.slice (A 0) (c 0).length (a 0)) := (h 0 (by decide)).cell
  have h1 : w.cell? ⟨ad.block, ad.off + 1, none⟩ = some (.slice (A 1) (c 1).length (a 1)) := (h 1 (by decide)).cell
  have h2 : w.cell? ⟨ad.block, ad.off + 2, none⟩ = some (.slice (A 2) (c 2).length (a 2)) := (h 2 (by decide)).cell
  have h3 : w.cell? ⟨ad.block, ad.off + 3, none⟩ = some (.slice (A 3) (c 3).length (a 3)) := (h 3 (by decide)).cell
  have h4 : w.cell? ⟨ad.block, ad.off + 4, none⟩ = some (.slice (A 4) (c 4).length (a 4)) := (h 4 (by decide)).cell
  have h5 : w.cell? ⟨ad.block, ad.off + 5, none⟩ = some (.slice (A 5) (c 5).length (a 5)) := (h 5 (by decide)).cell
  have h6 : w.cell? ⟨ad.block, ad.off + 6, none⟩ = some (.slice (A 6) (c 6).length (a 6)) := (h 6 (by decide)).cell
  have h7 : w.cell? ⟨ad.block, ad.off + 7, none⟩ = some (.slice (A 7) (c 7).length (a 7)) := (h 7 (by decide)).cell
  have h8 : w.cell? ⟨ad.block, ad.off + 8, none⟩ = some (.slice (A 8) (c 8).length (a 8)) := (h 8 (by decide)).cell
  have h9 : w.cell? ⟨ad.block, ad.off + 9, none⟩ = some (.slice (A 9) (c 9).length (a 9)) := (h 9 (by decide)).cell
  clear h
  go_enter Tryz.func28, Tryz.ntmps28
  go_wp2_with fail
  refine wp_region_still_tail 30 (by kernel_rfl) (by kernel_rfl) ?_
  simp only [List.take_succ_cons, List.take_zero, List.drop_succ_cons, List.drop_zero]
  repeat (refine wpStill_step (fun K hK => ?_); go_simp; refine hK _ ?_; clear hK K)
  refine wpStill_nil ?_
  change wpList _ _ _ _ _ w.drew
  go_wp2_with fail
  go_ret
  refine ⟨rfl, ((Below.refl _ _).alloc (Nat.le_refl _) _).drew, fun i hi => ?_⟩
  obtain rfl | rfl | rfl | rfl | rfl | rfl | rfl | rfl | rfl | rfl : i = 0 ∨ i = 1 ∨ i = 2 ∨ i = 3 ∨ i = 4 ∨ i = 5 ∨ i = 6 ∨ i = 7 ∨ i = 8 ∨ i = 9 := by omega
  all_goals exact (Blk.new _ _ _).drew.cell _

end Go.Proofs.YtmblpmmnglmjfaaGreatDoor
