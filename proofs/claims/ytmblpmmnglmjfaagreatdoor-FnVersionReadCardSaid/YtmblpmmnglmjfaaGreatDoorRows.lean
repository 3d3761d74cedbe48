/-
  NARROWER THAN 'FOR EVERY INPUT', by the rows' own cells (each row's printed sentence says how): FnVersionRead: laid · FnAgreedOn: laid.
  DERIVED. THE GIVEN ROWS OF THIS SEAT. 2 by the template 'for every input the law returns true; each argument reads behind the call as it read before'; 0 by the template 'total and deterministic' (their statements: YtmblpmmnglmjfaaGreatDoorTotals.lean).
  GIVEN WITH THE SEED: the statements are not yours to turn. If you find one false, say at which input.
  Laid BY PROGRAM, IN A SANDBOX (cutbox-rows.mjs): the forced cells as the released guide's own fill.sh prints them over the translation 77b512f594edd72d… (all of the seat's roots in one cut). By AI agents, Wed Nov 11 2026. No macro, syntax, notation, axiom, sorry.
-/
import Derived.Test.YtmblpmmnglmjfaaGreatDoorChecked
import GoSem.Claim
import GoSem.ClaimJoined
import GoSem.ClaimMapViews
import Derived.JoinedTies
import Derived.KernelRfl
namespace Go.Proofs.YtmblpmmnglmjfaaGreatDoor
/- THE CELL 'sum', in the pinned program and in every row, IS THE sha256 OF THE DUMP (.gsa) THAT YtmblpmmnglmjfaaGreatDoorProg.lean LOADS. Nothing in Lean hashes anything: it is a label: what it is worth is what the hold of that sum in a sandbox is worth. -/
noncomputable def Tryz.pinned : Pinned := { name := "ytmblpmmnglmjfaagreatdoor", sum := "77b512f594edd72d8152d16f0ad7335f93321e19061fe233e3ca0b7cea8e337d", checked := Tryz.checked }
namespace Rows
def none {H : Type} : Left H := { results := [], args := [] }

/- WHAT THE LISTED PACKAGE-LEVEL VARIABLES READ AS WHEN THE CALL BEGINS. Each datum BY PROGRAM (the guide's laid-datum.mjs) off the statement by which the dump's own 'gosem.cut.vars' lays the variable. In a bare row this is a premise. The card (YtmblpmmnglmjfaaGreatDoorCards.lean) ties it to the program's text. -/
def laid_io_ErrShortBuffer {H : Type} : DataW H := .iface "*errors.errorString" (.ptr (.agg [.lit (.string [115, 104, 111, 114, 116, 32, 98, 117, 102, 102, 101, 114])]))
def laid_io_EOF {H : Type} : DataW H := .iface "*errors.errorString" (.ptr (.agg [.lit (.string [69, 79, 70])]))
def laid_io_ErrUnexpectedEOF {H : Type} : DataW H := .iface "*errors.errorString" (.ptr (.agg [.lit (.string [117, 110, 101, 120, 112, 101, 99, 116, 101, 100, 32, 69, 79, 70])]))
def laid_given_example_pub_passwright_pub_ssh_certKeyAlgoNames {H : Type} : DataW H := .slice [.agg [.lit (.string [115, 115, 104, 45, 114, 115, 97, 45, 99, 101, 114, 116, 45, 118, 48, 49, 64, 111, 112, 101, 110, 115, 115, 104, 46, 99, 111, 109]), .lit (.string [115, 115, 104, 45, 114, 115, 97])], .agg [.lit (.string [114, 115, 97, 45, 115, 104, 97, 50, 45, 50, 53, 54, 45, 99, 101, 114, 116, 45, 118, 48, 49, 64, 111, 112, 101, 110, 115, 115, 104, 46, 99, 111, 109]), .lit (.string [114, 115, 97, 45, 115, 104, 97, 50, 45, 50, 53, 54])], .agg [.lit (.string [114, 115, 97, 45, 115, 104, 97, 50, 45, 53, 49, 50, 45, 99, 101, 114, 116, 45, 118, 48, 49, 64, 111, 112, 101, 110, 115, 115, 104, 46, 99, 111, 109]), .lit (.string [114, 115, 97, 45, 115, 104, 97, 50, 45, 53, 49, 50])], .agg [.lit (.string [115, 115, 104, 45, 100, 115, 115, 45, 99, 101, 114, 116, 45, 118, 48, 49, 64, 111, 112, 101, 110, 115, 115, 104, 46, 99, 111, 109]), .lit (.string [115, 115, 104, 45, 100, 115, 115])], .agg [.lit (.string [101, 99, 100, 115, 97, 45, 115, 104, 97, 50, 45, 110, 105, 115, 116, 112, 50, 53, 54, 45, 99, 101, 114, 116, 45, 118, 48, 49, 64, 111, 112, 101, 110, 115, 115, 104, 46, 99, 111, 109]), .lit (.string [101, 99, 100, 115, 97, 45, 115, 104, 97, 50, 45, 110, 105, 115, 116, 112, 50, 53, 54])], .agg [.lit (.string [101, 99, 100, 115, 97, 45, 115, 104, 97, 50, 45, 110, 105, 115, 116, 112, 51, 56, 52, 45, 99, 101, 114, 116, 45, 118, 48, 49, 64, 111, 112, 101, 110, 115, 115, 104, 46, 99, 111, 109]), .lit (.string [101, 99, 100, 115, 97, 45, 115, 104, 97, 50, 45, 110, 105, 115, 116, 112, 51, 56, 52])], .agg [.lit (.string [101, 99, 100, 115, 97, 45, 115, 104, 97, 50, 45, 110, 105, 115, 116, 112, 53, 50, 49, 45, 99, 101, 114, 116, 45, 118, 48, 49, 64, 111, 112, 101, 110, 115, 115, 104, 46, 99, 111, 109]), .lit (.string [101, 99, 100, 115, 97, 45, 115, 104, 97, 50, 45, 110, 105, 115, 116, 112, 53, 50, 49])], .agg [.lit (.string [115, 107, 45, 101, 99, 100, 115, 97, 45, 115, 104, 97, 50, 45, 110, 105, 115, 116, 112, 50, 53, 54, 45, 99, 101, 114, 116, 45, 118, 48, 49, 64, 111, 112, 101, 110, 115, 115, 104, 46, 99, 111, 109]), .lit (.string [115, 107, 45, 101, 99, 100, 115, 97, 45, 115, 104, 97, 50, 45, 110, 105, 115, 116, 112, 50, 53, 54, 64, 111, 112, 101, 110, 115, 115, 104, 46, 99, 111, 109])], .agg [.lit (.string [115, 115, 104, 45, 101, 100, 50, 53, 53, 49, 57, 45, 99, 101, 114, 116, 45, 118, 48, 49, 64, 111, 112, 101, 110, 115, 115, 104, 46, 99, 111, 109]), .lit (.string [115, 115, 104, 45, 101, 100, 50, 53, 53, 49, 57])], .agg [.lit (.string [115, 107, 45, 115, 115, 104, 45, 101, 100, 50, 53, 53, 49, 57, 45, 99, 101, 114, 116, 45, 118, 48, 49, 64, 111, 112, 101, 110, 115, 115, 104, 46, 99, 111, 109]), .lit (.string [115, 107, 45, 115, 115, 104, 45, 101, 100, 50, 53, 53, 49, 57, 64, 111, 112, 101, 110, 115, 115, 104, 46, 99, 111, 109])], .agg [.lit (.string [115, 115, 104, 45, 109, 108, 100, 115, 97, 45, 52, 52, 45, 99, 101, 114, 116, 45, 118, 48, 49, 64, 103, 111, 108, 97, 110, 103, 46, 111, 114, 103]), .lit (.string [115, 115, 104, 45, 109, 108, 100, 115, 97, 45, 52, 52])], .agg [.lit (.string [115, 115, 104, 45, 109, 108, 100, 115, 97, 45, 54, 53, 45, 99, 101, 114, 116, 45, 118, 48, 49, 64, 103, 111, 108, 97, 110, 103, 46, 111, 114, 103]), .lit (.string [115, 115, 104, 45, 109, 108, 100, 115, 97, 45, 54, 53])], .agg [.lit (.string [115, 115, 104, 45, 109, 108, 100, 115, 97, 45, 56, 55, 45, 99, 101, 114, 116, 45, 118, 48, 49, 64, 103, 111, 108, 97, 110, 103, 46, 111, 114, 103]), .lit (.string [115, 115, 104, 45, 109, 108, 100, 115, 97, 45, 56, 55])]] []

/-- 'laws.FnVersionRead': WHATEVER THE INPUT: true; the input reads as it did. -/
def fnVersionReadSpec : ChangeSpec := { name := "fnVersionRead", vars := ["given.example/pub-passwright/pub/ssh.certKeyAlgoNames"], fn := fun _ => fun
  | [d1, d2, d3, g1] => { results := [.lit (.bool true)], args := [d1, d2, d3], vars := [g1] }
  | _ => none }
def fnVersionReadRow : OpenClaim := { program := "ytmblpmmnglmjfaagreatdoor", sum := "77b512f594edd72d8152d16f0ad7335f93321e19061fe233e3ca0b7cea8e337d", func := "given.example/pub-passwright/laws.FnVersionRead", spec := "fnVersionRead", unfollowed := true, recurses := true, named := ["encoding/binary.BigEndian", "io.ErrShortBuffer", "io.EOF", "io.ErrUnexpectedEOF", "given.example/pub-passwright/pub/ssh.certKeyAlgoNames"], apart := false, laid := [("io.ErrShortBuffer", laid_io_ErrShortBuffer), ("io.EOF", laid_io_EOF), ("io.ErrUnexpectedEOF", laid_io_ErrUnexpectedEOF), ("given.example/pub-passwright/pub/ssh.certKeyAlgoNames", laid_given_example_pub_passwright_pub_ssh_certKeyAlgoNames)] }
def FnVersionReadSaid : Prop := fnVersionReadRow.holds Tryz.pinned (OpenSpec.ofChange fnVersionReadSpec)

/-- ITS FALSE NEIGHBOUR: 'it returns false'. Refute it at one input. -/
def fnVersionReadWrong : ChangeSpec := { name := "fnVersionRead", vars := ["given.example/pub-passwright/pub/ssh.certKeyAlgoNames"], fn := fun _ => fun
  | [d1, d2, d3, g1] => { results := [.lit (.bool false)], args := [d1, d2, d3], vars := [g1] }
  | _ => none }
def FnVersionReadWrongFalsely : Prop := fnVersionReadRow.holds Tryz.pinned (OpenSpec.ofChange fnVersionReadWrong)

/-- 'laws.FnAgreedOn': WHATEVER THE INPUT: true; the input reads as it did. -/
def fnAgreedOnSpec : ChangeSpec := { name := "fnAgreedOn", vars := ["given.example/pub-passwright/pub/ssh.certKeyAlgoNames"], fn := fun _ => fun
  | [d1, d2, g1] => { results := [.lit (.bool true)], args := [d1, d2], vars := [g1] }
  | _ => none }
def fnAgreedOnRow : OpenClaim := { program := "ytmblpmmnglmjfaagreatdoor", sum := "77b512f594edd72d8152d16f0ad7335f93321e19061fe233e3ca0b7cea8e337d", func := "given.example/pub-passwright/laws.FnAgreedOn", spec := "fnAgreedOn", unfollowed := true, recurses := true, named := ["encoding/binary.BigEndian", "io.ErrShortBuffer", "io.EOF", "io.ErrUnexpectedEOF", "given.example/pub-passwright/pub/ssh.certKeyAlgoNames"], apart := false, laid := [("io.ErrShortBuffer", laid_io_ErrShortBuffer), ("io.EOF", laid_io_EOF), ("io.ErrUnexpectedEOF", laid_io_ErrUnexpectedEOF), ("given.example/pub-passwright/pub/ssh.certKeyAlgoNames", laid_given_example_pub_passwright_pub_ssh_certKeyAlgoNames)] }
def FnAgreedOnSaid : Prop := fnAgreedOnRow.holds Tryz.pinned (OpenSpec.ofChange fnAgreedOnSpec)

/-- ITS FALSE NEIGHBOUR: 'it returns false'. Refute it at one input. -/
def fnAgreedOnWrong : ChangeSpec := { name := "fnAgreedOn", vars := ["given.example/pub-passwright/pub/ssh.certKeyAlgoNames"], fn := fun _ => fun
  | [d1, d2, g1] => { results := [.lit (.bool false)], args := [d1, d2], vars := [g1] }
  | _ => none }
def FnAgreedOnWrongFalsely : Prop := fnAgreedOnRow.holds Tryz.pinned (OpenSpec.ofChange fnAgreedOnWrong)

/- THE SECOND FORM. 'bulk': how many values and letters a reading holds, each counted each time it is reached (what is shared counts as often as it is met; a slice's spare places count too). A statement '..UptoSaid' is the law's where the arguments, and the package variables that the reading takes, are together of bulk at most 1048576: NARROWER than '..Said'. Prove '..Said' where nothing that the law and all that it calls make is longer than what came in: it says more and counts as full. Else prove '..UptoSaid'. A law counts once. -/
mutual
def uptoBulk {H : Type} : DataW H → Nat
  | .lit (.string bytes) => bytes.length + 1
  | .lit _ => 1
  | .nil => 1
  | .ptr d => uptoBulk d + 1
  | .slice elems spare => uptoBulkAll elems + uptoBulkAll spare + 1
  | .agg parts => uptoBulkAll parts + 1
  | .iface _ d => uptoBulk d + 1
  | .map entries => uptoBulkEntries entries + 1
  | .held _ => 1
def uptoBulkAll {H : Type} : List (DataW H) → Nat
  | [] => 0
  | d :: r => uptoBulk d + uptoBulkAll r
def uptoBulkEntries {H : Type} : List (Lit × DataW H) → Nat
  | [] => 0
  | x :: r => uptoBulkEntry x + uptoBulkEntries r
def uptoBulkEntry {H : Type} : Lit × DataW H → Nat
  | (.string bytes, d) => bytes.length + uptoBulk d + 1
  | (_, d) => uptoBulk d + 1
 end
def uptoSmall : (H : Type) → List (DataW H) → Bool := fun _ ds => decide (uptoBulkAll ds ≤ 1048576)
def OpenSpec.upto (s : _root_.Go.ChangeSpec) : _root_.Go.OpenSpec := { _root_.Go.OpenSpec.ofChange s with cond := some uptoSmall }

/-- 'laws.FnVersionRead', WHERE WHAT IT READS IS OF BULK AT MOST 1048576: true; the input reads as it did. -/
def fnVersionReadUptoRow : OpenClaim := { program := "ytmblpmmnglmjfaagreatdoor", sum := "77b512f594edd72d8152d16f0ad7335f93321e19061fe233e3ca0b7cea8e337d", func := "given.example/pub-passwright/laws.FnVersionRead", spec := "fnVersionRead", unfollowed := true, recurses := true, named := ["encoding/binary.BigEndian", "io.ErrShortBuffer", "io.EOF", "io.ErrUnexpectedEOF", "given.example/pub-passwright/pub/ssh.certKeyAlgoNames"], apart := false, laid := [("io.ErrShortBuffer", laid_io_ErrShortBuffer), ("io.EOF", laid_io_EOF), ("io.ErrUnexpectedEOF", laid_io_ErrUnexpectedEOF), ("given.example/pub-passwright/pub/ssh.certKeyAlgoNames", laid_given_example_pub_passwright_pub_ssh_certKeyAlgoNames)], narrowed := true }
def FnVersionReadUptoSaid : Prop := fnVersionReadUptoRow.holds Tryz.pinned (OpenSpec.upto fnVersionReadSpec)

/-- 'laws.FnAgreedOn', WHERE WHAT IT READS IS OF BULK AT MOST 1048576: true; the input reads as it did. -/
def fnAgreedOnUptoRow : OpenClaim := { program := "ytmblpmmnglmjfaagreatdoor", sum := "77b512f594edd72d8152d16f0ad7335f93321e19061fe233e3ca0b7cea8e337d", func := "given.example/pub-passwright/laws.FnAgreedOn", spec := "fnAgreedOn", unfollowed := true, recurses := true, named := ["encoding/binary.BigEndian", "io.ErrShortBuffer", "io.EOF", "io.ErrUnexpectedEOF", "given.example/pub-passwright/pub/ssh.certKeyAlgoNames"], apart := false, laid := [("io.ErrShortBuffer", laid_io_ErrShortBuffer), ("io.EOF", laid_io_EOF), ("io.ErrUnexpectedEOF", laid_io_ErrUnexpectedEOF), ("given.example/pub-passwright/pub/ssh.certKeyAlgoNames", laid_given_example_pub_passwright_pub_ssh_certKeyAlgoNames)], narrowed := true }
def FnAgreedOnUptoSaid : Prop := fnAgreedOnUptoRow.holds Tryz.pinned (OpenSpec.upto fnAgreedOnSpec)

end Rows
end Go.Proofs.YtmblpmmnglmjfaaGreatDoor
