/- What the rows' condition gives the walks: io.EOF's cell; a start that meets it. -/
import Derived.Test.YtmblpmmnglmjfaaGreatDoorRows
import Derived.Test.YtmblpmmnglmjfaaGreatDoorAgInfo
import Derived.ProofKit
import Derived.LaidMore
import Derived.OpenVars
import Derived.Stop.LaidTwo
import Derived.Stop.Joined
set_option linter.unusedVariables false
namespace Go.Proofs.YtmblpmmnglmjfaaGreatDoor
open Go.ChangeShapes Go.WideShapes Go.ChangeAt Go.RowKit

abbrev laid4 : List (String × DataW Unit) := [("io.ErrShortBuffer", Rows.laid_io_ErrShortBuffer), ("io.EOF", Rows.laid_io_EOF), ("io.ErrUnexpectedEOF", Rows.laid_io_ErrUnexpectedEOF), ("given.example/pub-passwright/pub/ssh.certKeyAlgoNames", Rows.laid_given_example_pub_passwright_pub_ssh_certKeyAlgoNames)]
theorem gShort : Tryz.prog.globalNamed "io.ErrShortBuffer" = some 1 := by kernel_rfl
theorem gEOF : Tryz.prog.globalNamed "io.EOF" = some 2 := by kernel_rfl
theorem tShort : (Tryz.prog.globals[1]?).map (·.type) = some 44 := by kernel_rfl
theorem tEOF : (Tryz.prog.globals[2]?).map (·.type) = some 44 := by kernel_rfl
theorem star_es : "*" ++ "errors.errorString" = "*errors.errorString" := by decide
theorem row_es (u : TypeId) (h : Tryz.prog.typeName? 3 u = some "*errors.errorString") : u = 103 :=
  typeName_ptr_named (nm := "errors.errorString") (by rw [star_es]; kernel_rfl) (by kernel_rfl) (by decide) u (by rw [star_es]; exact h)
theorem cells_es : Tryz.prog.cellsOf 105 = 1 := by kernel_rfl
theorem cells_st : Tryz.prog.cellsOf 9 = 1 := by kernel_rfl
/-- io.EOF's cell. -/
theorem eof_of_laid {W : World} (h : laidMetH Tryz.prog laid4 W) : ∃ (T : TypeId) (v : Value), W.cell? ⟨2, 0, none⟩ = some (.iface T v) := by
  rw [MakeChecks.laidMetH_plain _ _ _ (by kernel_rfl)] at h
  obtain ⟨a0, a1, s0, s1, c0, c1, t0, t1, _, h1, _⟩ := laid_sentinels2 h gShort tShort gEOF tEOF Tryz.underlying44 row_es Tryz.underlying103 Tryz.underlying105 rfl rfl Tryz.underlying9 cells_es cells_st
  exact ⟨_, _, by simpa using World.var?_cell gEOF h1 0⟩
/-- The door's own heap meets the condition. -/
theorem door_met (os : Os) (args : Array Value) : laidMetH Tryz.prog laid4 ((World.doorLaid Tryz.prog 400 os).forCall (fun _ _ => 0) ⟨#[], args, []⟩).memory :=
  laidMetH_of_parts3 (fuel := 8) (laidMet_of_run' 8 (by kernel_rfl) (by kernel_rfl)) (by kernel_rfl) (by kernel_rfl)
theorem own_ : ownKnob Tryz.prog.godebug = none := by kernel_rfl
theorem laidOut_ : laidOutB Tryz.prog = true := by kernel_rfl
theorem varsRowed_ : varsRowed Tryz.prog ["given.example/pub-passwright/pub/ssh.certKeyAlgoNames"] = true := by kernel_rfl

end Go.Proofs.YtmblpmmnglmjfaaGreatDoor
