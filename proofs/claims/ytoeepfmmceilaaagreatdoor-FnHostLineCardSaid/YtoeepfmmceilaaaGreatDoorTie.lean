/-
  DERIVED. GIVEN WITH THE SEED: THE PROGRAM's TIES (one call each: nine closed facts by the kernel) AND EACH ROW's TIE, after the 31st guide's Derived/Test/Toyas{Tie, Card}.lean. No idea stands in it: it is a product of the set-up. Laid BY PROGRAM, IN A SANDBOX (cutbox-door.mjs). By AI agents, Wed Nov 11 2026. No macro, syntax, notation, axiom, sorry.
-/
import Derived.Test.YtoeepfmmceilaaaGreatDoorRows
import Derived.LaidByTextLater
import Derived.SevenTiedAt
import Derived.LaidSub
import Derived.LaidOnce
namespace Go.Proofs.YtoeepfmmceilaaaGreatDoor
open Go
set_option maxRecDepth 100000
theorem seatTie1 : Tryz.prog.laidByTextLater [("unicode/utf8.acceptRanges", Rows.laid_unicode_utf8_acceptRanges), ("io.EOF", Rows.laid_io_EOF), ("bytes.ErrTooLarge", Rows.laid_bytes_ErrTooLarge), ("given.example/pub-passwright/pub/ssh.certKeyAlgoNames", Rows.laid_given_example_pub_passwright_pub_ssh_certKeyAlgoNames)] [.data, .sentinel, .sentinel, .data] true :=
  Program.laidByTextLater_by_one 75 8 33 (by kernel_rfl) (by kernel_rfl) (by kernel_rfl) (by kernel_rfl) (by kernel_rfl) (by kernel_rfl) (fun _ _ => by kernel_rfl)
theorem pin_laid_unicode_utf8_first : Tryz.pinned.checked.prog.pinnedFits "unicode/utf8.first" = true := by kernel_rfl
theorem noOwnUnsafe : Tryz.pinned.checked.prog.headLifts.contains "ownunsafe" = false := by kernel_rfl
theorem tie : Tryz.prog.laidByTextLater [("given.example/pub-passwright/pub/ssh.certKeyAlgoNames", Rows.laid_given_example_pub_passwright_pub_ssh_certKeyAlgoNames)] [.data] true :=
  Program.laidByTextLater.sub seatTie1 ["given.example/pub-passwright/pub/ssh.certKeyAlgoNames"] (by kernel_rfl) (by kernel_rfl)
theorem fnLineRead_row_tie : Rows.fnLineReadRow.laidByTextAt .later Tryz.pinned [.data] true :=
  OpenClaim.laidByTextAt_later rfl rfl tie noOwnUnsafe
theorem fnNormalized_row_tie : Rows.fnNormalizedRow.laidByTextAt .later Tryz.pinned [.data] true :=
  OpenClaim.laidByTextAt_later rfl rfl tie noOwnUnsafe
theorem fnHostLine_row_tie : Rows.fnHostLineRow.laidByTextAt .later Tryz.pinned [.data] true :=
  OpenClaim.laidByTextAt_later rfl rfl tie noOwnUnsafe
theorem fits2 : Tryz.pinned.checked.prog.listedFits [("unicode/utf8.acceptRanges", Rows.laid_unicode_utf8_acceptRanges), ("io.EOF", Rows.laid_io_EOF), ("given.example/pub-passwright/pub/ssh.certKeyAlgoNames", Rows.laid_given_example_pub_passwright_pub_ssh_certKeyAlgoNames), ("unicode/utf8.first", Rows.laid_unicode_utf8_first)] = true := by
  unfold Program.listedFits
  rw [noOwnUnsafe]
  kernel_rfl
theorem tie2 : Tryz.prog.laidByTextLater [("unicode/utf8.acceptRanges", Rows.laid_unicode_utf8_acceptRanges), ("io.EOF", Rows.laid_io_EOF), ("given.example/pub-passwright/pub/ssh.certKeyAlgoNames", Rows.laid_given_example_pub_passwright_pub_ssh_certKeyAlgoNames)] [.data, .sentinel, .data] true :=
  Program.laidByTextLater.sub seatTie1 ["unicode/utf8.acceptRanges", "io.EOF", "given.example/pub-passwright/pub/ssh.certKeyAlgoNames"] (by kernel_rfl) (by kernel_rfl)
theorem fnHostsRead_row_tie : Rows.fnHostsReadRow.laidByTextAt .later Tryz.pinned [.data, .sentinel, .data, .pinned] true :=
  OpenClaim.laidByTextAt_pinned rfl rfl tie2 rfl rfl rfl rfl (fun y hy _e => by
    simp only [Rows.fnHostsReadRow, List.zip_cons_cons, List.zip_nil_right, List.mem_cons, List.mem_nil_iff, or_false] at hy
    rcases hy with rfl | rfl | rfl | rfl
    · cases _e
    · cases _e
    · cases _e
    · exact ⟨pin_laid_unicode_utf8_first, by kernel_rfl⟩) fits2
theorem tie3 : Tryz.prog.laidByTextLater [("bytes.ErrTooLarge", Rows.laid_bytes_ErrTooLarge), ("given.example/pub-passwright/pub/ssh.certKeyAlgoNames", Rows.laid_given_example_pub_passwright_pub_ssh_certKeyAlgoNames)] [.sentinel, .data] true :=
  Program.laidByTextLater.sub seatTie1 ["bytes.ErrTooLarge", "given.example/pub-passwright/pub/ssh.certKeyAlgoNames"] (by kernel_rfl) (by kernel_rfl)
theorem fnLineWritten_row_tie : Rows.fnLineWrittenRow.laidByTextAt .later Tryz.pinned [.sentinel, .data] true :=
  OpenClaim.laidByTextAt_later rfl rfl tie3 noOwnUnsafe
theorem fnLineReadUpto_row_tie : Rows.fnLineReadUptoRow.laidByTextAt .later Tryz.pinned [.data] true :=
  OpenClaim.laidByTextAt_later rfl rfl tie noOwnUnsafe
theorem fnNormalizedUpto_row_tie : Rows.fnNormalizedUptoRow.laidByTextAt .later Tryz.pinned [.data] true :=
  OpenClaim.laidByTextAt_later rfl rfl tie noOwnUnsafe
theorem fnHostsReadUpto_row_tie : Rows.fnHostsReadUptoRow.laidByTextAt .later Tryz.pinned [.data, .sentinel, .data, .pinned] true :=
  OpenClaim.laidByTextAt_pinned rfl rfl tie2 rfl rfl rfl rfl (fun y hy _e => by
    simp only [Rows.fnHostsReadUptoRow, List.zip_cons_cons, List.zip_nil_right, List.mem_cons, List.mem_nil_iff, or_false] at hy
    rcases hy with rfl | rfl | rfl | rfl
    · cases _e
    · cases _e
    · cases _e
    · exact ⟨pin_laid_unicode_utf8_first, by kernel_rfl⟩) fits2
theorem fnHostLineUpto_row_tie : Rows.fnHostLineUptoRow.laidByTextAt .later Tryz.pinned [.data] true :=
  OpenClaim.laidByTextAt_later rfl rfl tie noOwnUnsafe
theorem fnLineWrittenUpto_row_tie : Rows.fnLineWrittenUptoRow.laidByTextAt .later Tryz.pinned [.sentinel, .data] true :=
  OpenClaim.laidByTextAt_later rfl rfl tie3 noOwnUnsafe
end Go.Proofs.YtoeepfmmceilaaaGreatDoor
