/-
  NARROWER THAN 'FOR EVERY INPUT', by the rows' own cells (each row's printed sentence says how): FnLineRead: laid · FnNormalized: laid · FnHostsRead: laid · FnHostLine: laid · FnLineWritten: laid.
  DERIVED. THE GIVEN ROWS OF THIS SEAT. 5 by the template 'for every input the law returns true; each argument reads behind the call as it read before'; 0 by the template 'total and deterministic' (their statements: YtoeepfmmceilaaaGreatDoorTotals.lean).
  GIVEN WITH THE SEED: the statements are not yours to turn. If you find one false, say at which input.
  Laid BY PROGRAM, IN A SANDBOX (cutbox-rows.mjs): the forced cells as the released guide's own fill.sh prints them over the translation 0ba5bc3c5fa6a05c… (all of the seat's roots in one cut). By AI agents, Wed Nov 11 2026. No macro, syntax, notation, axiom, sorry.
-/
import Derived.Test.YtoeepfmmceilaaaGreatDoorChecked
import GoSem.PinnedTables
import GoSem.Claim
import GoSem.ClaimJoined
import GoSem.ClaimMapViews
import Derived.JoinedTies
import Derived.KernelRfl
namespace Go.Proofs.YtoeepfmmceilaaaGreatDoor
/- THE CELL 'sum', in the pinned program and in every row, IS THE sha256 OF THE DUMP (.gsa) THAT YtoeepfmmceilaaaGreatDoorProg.lean LOADS. Nothing in Lean hashes anything: it is a label: what it is worth is what the hold of that sum in a sandbox is worth. -/
noncomputable def Tryz.pinned : Pinned := { name := "ytoeepfmmceilaaagreatdoor", sum := "0ba5bc3c5fa6a05c041ab2aa648d82fab9135a9f6fa5a578c3a86348f85ece7c", checked := Tryz.checked }
namespace Rows
def none {H : Type} : Left H := { results := [], args := [] }

/- WHAT THE LISTED PACKAGE-LEVEL VARIABLES READ AS WHEN THE CALL BEGINS. Each datum BY PROGRAM (the guide's laid-datum.mjs) off the statement by which the dump's own 'gosem.cut.vars' lays the variable. In a bare row this is a premise. The card (YtoeepfmmceilaaaGreatDoorCards.lean) ties it to the program's text. -/
def laid_given_example_pub_passwright_pub_ssh_certKeyAlgoNames {H : Type} : DataW H := .slice [.agg [.lit (.string [115, 115, 104, 45, 114, 115, 97, 45, 99, 101, 114, 116, 45, 118, 48, 49, 64, 111, 112, 101, 110, 115, 115, 104, 46, 99, 111, 109]), .lit (.string [115, 115, 104, 45, 114, 115, 97])], .agg [.lit (.string [114, 115, 97, 45, 115, 104, 97, 50, 45, 50, 53, 54, 45, 99, 101, 114, 116, 45, 118, 48, 49, 64, 111, 112, 101, 110, 115, 115, 104, 46, 99, 111, 109]), .lit (.string [114, 115, 97, 45, 115, 104, 97, 50, 45, 50, 53, 54])], .agg [.lit (.string [114, 115, 97, 45, 115, 104, 97, 50, 45, 53, 49, 50, 45, 99, 101, 114, 116, 45, 118, 48, 49, 64, 111, 112, 101, 110, 115, 115, 104, 46, 99, 111, 109]), .lit (.string [114, 115, 97, 45, 115, 104, 97, 50, 45, 53, 49, 50])], .agg [.lit (.string [115, 115, 104, 45, 100, 115, 115, 45, 99, 101, 114, 116, 45, 118, 48, 49, 64, 111, 112, 101, 110, 115, 115, 104, 46, 99, 111, 109]), .lit (.string [115, 115, 104, 45, 100, 115, 115])], .agg [.lit (.string [101, 99, 100, 115, 97, 45, 115, 104, 97, 50, 45, 110, 105, 115, 116, 112, 50, 53, 54, 45, 99, 101, 114, 116, 45, 118, 48, 49, 64, 111, 112, 101, 110, 115, 115, 104, 46, 99, 111, 109]), .lit (.string [101, 99, 100, 115, 97, 45, 115, 104, 97, 50, 45, 110, 105, 115, 116, 112, 50, 53, 54])], .agg [.lit (.string [101, 99, 100, 115, 97, 45, 115, 104, 97, 50, 45, 110, 105, 115, 116, 112, 51, 56, 52, 45, 99, 101, 114, 116, 45, 118, 48, 49, 64, 111, 112, 101, 110, 115, 115, 104, 46, 99, 111, 109]), .lit (.string [101, 99, 100, 115, 97, 45, 115, 104, 97, 50, 45, 110, 105, 115, 116, 112, 51, 56, 52])], .agg [.lit (.string [101, 99, 100, 115, 97, 45, 115, 104, 97, 50, 45, 110, 105, 115, 116, 112, 53, 50, 49, 45, 99, 101, 114, 116, 45, 118, 48, 49, 64, 111, 112, 101, 110, 115, 115, 104, 46, 99, 111, 109]), .lit (.string [101, 99, 100, 115, 97, 45, 115, 104, 97, 50, 45, 110, 105, 115, 116, 112, 53, 50, 49])], .agg [.lit (.string [115, 107, 45, 101, 99, 100, 115, 97, 45, 115, 104, 97, 50, 45, 110, 105, 115, 116, 112, 50, 53, 54, 45, 99, 101, 114, 116, 45, 118, 48, 49, 64, 111, 112, 101, 110, 115, 115, 104, 46, 99, 111, 109]), .lit (.string [115, 107, 45, 101, 99, 100, 115, 97, 45, 115, 104, 97, 50, 45, 110, 105, 115, 116, 112, 50, 53, 54, 64, 111, 112, 101, 110, 115, 115, 104, 46, 99, 111, 109])], .agg [.lit (.string [115, 115, 104, 45, 101, 100, 50, 53, 53, 49, 57, 45, 99, 101, 114, 116, 45, 118, 48, 49, 64, 111, 112, 101, 110, 115, 115, 104, 46, 99, 111, 109]), .lit (.string [115, 115, 104, 45, 101, 100, 50, 53, 53, 49, 57])], .agg [.lit (.string [115, 107, 45, 115, 115, 104, 45, 101, 100, 50, 53, 53, 49, 57, 45, 99, 101, 114, 116, 45, 118, 48, 49, 64, 111, 112, 101, 110, 115, 115, 104, 46, 99, 111, 109]), .lit (.string [115, 107, 45, 115, 115, 104, 45, 101, 100, 50, 53, 53, 49, 57, 64, 111, 112, 101, 110, 115, 115, 104, 46, 99, 111, 109])], .agg [.lit (.string [115, 115, 104, 45, 109, 108, 100, 115, 97, 45, 52, 52, 45, 99, 101, 114, 116, 45, 118, 48, 49, 64, 103, 111, 108, 97, 110, 103, 46, 111, 114, 103]), .lit (.string [115, 115, 104, 45, 109, 108, 100, 115, 97, 45, 52, 52])], .agg [.lit (.string [115, 115, 104, 45, 109, 108, 100, 115, 97, 45, 54, 53, 45, 99, 101, 114, 116, 45, 118, 48, 49, 64, 103, 111, 108, 97, 110, 103, 46, 111, 114, 103]), .lit (.string [115, 115, 104, 45, 109, 108, 100, 115, 97, 45, 54, 53])], .agg [.lit (.string [115, 115, 104, 45, 109, 108, 100, 115, 97, 45, 56, 55, 45, 99, 101, 114, 116, 45, 118, 48, 49, 64, 103, 111, 108, 97, 110, 103, 46, 111, 114, 103]), .lit (.string [115, 115, 104, 45, 109, 108, 100, 115, 97, 45, 56, 55])]] []
def laid_unicode_utf8_acceptRanges {H : Type} : DataW H := .agg [.agg [.lit (.int .u8 128), .lit (.int .u8 191)], .agg [.lit (.int .u8 160), .lit (.int .u8 191)], .agg [.lit (.int .u8 128), .lit (.int .u8 159)], .agg [.lit (.int .u8 144), .lit (.int .u8 191)], .agg [.lit (.int .u8 128), .lit (.int .u8 143)], .agg [.lit (.int .u8 0), .lit (.int .u8 0)], .agg [.lit (.int .u8 0), .lit (.int .u8 0)], .agg [.lit (.int .u8 0), .lit (.int .u8 0)], .agg [.lit (.int .u8 0), .lit (.int .u8 0)], .agg [.lit (.int .u8 0), .lit (.int .u8 0)], .agg [.lit (.int .u8 0), .lit (.int .u8 0)], .agg [.lit (.int .u8 0), .lit (.int .u8 0)], .agg [.lit (.int .u8 0), .lit (.int .u8 0)], .agg [.lit (.int .u8 0), .lit (.int .u8 0)], .agg [.lit (.int .u8 0), .lit (.int .u8 0)], .agg [.lit (.int .u8 0), .lit (.int .u8 0)]]
def laid_io_EOF {H : Type} : DataW H := .iface "*errors.errorString" (.ptr (.agg [.lit (.string [69, 79, 70])]))
/-- One of Go's own tables, pinned by name: the form's constant. -/
def laid_unicode_utf8_first : DataW Unit := Go.Pinned.utf8First
def laid_bytes_ErrTooLarge {H : Type} : DataW H := .iface "*errors.errorString" (.ptr (.agg [.lit (.string [98, 121, 116, 101, 115, 46, 66, 117, 102, 102, 101, 114, 58, 32, 116, 111, 111, 32, 108, 97, 114, 103, 101])]))

/-- 'laws.FnLineRead': WHATEVER THE INPUT: true; the input reads as it did. -/
def fnLineReadSpec : ChangeSpec := { name := "fnLineRead", vars := ["given.example/pub-passwright/pub/ssh.certKeyAlgoNames"], fn := fun _ => fun
  | [d, g1] => { results := [.lit (.bool true)], args := [d], vars := [g1] }
  | _ => none }
def fnLineReadRow : OpenClaim := { program := "ytoeepfmmceilaaagreatdoor", sum := "0ba5bc3c5fa6a05c041ab2aa648d82fab9135a9f6fa5a578c3a86348f85ece7c", func := "given.example/pub-passwright/laws.FnLineRead", spec := "fnLineRead", inPlace := ["internal/bytealg.IndexByte"], unfollowed := true, recurses := true, named := ["encoding/binary.BigEndian", "given.example/pub-passwright/pub/ssh.certKeyAlgoNames"], apart := false, laid := [("given.example/pub-passwright/pub/ssh.certKeyAlgoNames", laid_given_example_pub_passwright_pub_ssh_certKeyAlgoNames)] }
def FnLineReadSaid : Prop := fnLineReadRow.holds Tryz.pinned (OpenSpec.ofChange fnLineReadSpec)

/-- ITS FALSE NEIGHBOUR: 'it returns false'. Refute it at one input. -/
def fnLineReadWrong : ChangeSpec := { name := "fnLineRead", vars := ["given.example/pub-passwright/pub/ssh.certKeyAlgoNames"], fn := fun _ => fun
  | [d, g1] => { results := [.lit (.bool false)], args := [d], vars := [g1] }
  | _ => none }
def FnLineReadWrongFalsely : Prop := fnLineReadRow.holds Tryz.pinned (OpenSpec.ofChange fnLineReadWrong)

/-- 'laws.FnNormalized': WHATEVER THE INPUT: true; the input reads as it did. -/
def fnNormalizedSpec : ChangeSpec := { name := "fnNormalized", vars := ["given.example/pub-passwright/pub/ssh.certKeyAlgoNames"], fn := fun _ => fun
  | [d1, d2, d3, d4, g1] => { results := [.lit (.bool true)], args := [d1, d2, d3, d4], vars := [g1] }
  | _ => none }
def fnNormalizedRow : OpenClaim := { program := "ytoeepfmmceilaaagreatdoor", sum := "0ba5bc3c5fa6a05c041ab2aa648d82fab9135a9f6fa5a578c3a86348f85ece7c", func := "given.example/pub-passwright/laws.FnNormalized", spec := "fnNormalized", inPlace := ["internal/bytealg.IndexByte", "internal/bytealg.IndexByteString"], unfollowed := true, recurses := true, named := ["encoding/binary.BigEndian", "given.example/pub-passwright/pub/ssh.certKeyAlgoNames"], apart := false, laid := [("given.example/pub-passwright/pub/ssh.certKeyAlgoNames", laid_given_example_pub_passwright_pub_ssh_certKeyAlgoNames)] }
def FnNormalizedSaid : Prop := fnNormalizedRow.holds Tryz.pinned (OpenSpec.ofChange fnNormalizedSpec)

/-- ITS FALSE NEIGHBOUR: 'it returns false'. Refute it at one input. -/
def fnNormalizedWrong : ChangeSpec := { name := "fnNormalized", vars := ["given.example/pub-passwright/pub/ssh.certKeyAlgoNames"], fn := fun _ => fun
  | [d1, d2, d3, d4, g1] => { results := [.lit (.bool false)], args := [d1, d2, d3, d4], vars := [g1] }
  | _ => none }
def FnNormalizedWrongFalsely : Prop := fnNormalizedRow.holds Tryz.pinned (OpenSpec.ofChange fnNormalizedWrong)

/-- 'laws.FnHostsRead': WHATEVER THE INPUT: true; the input reads as it did. -/
def fnHostsReadSpec : ChangeSpec := { name := "fnHostsRead", vars := ["given.example/pub-passwright/pub/ssh.certKeyAlgoNames"], fn := fun _ => fun
  | [d, g1] => { results := [.lit (.bool true)], args := [d], vars := [g1] }
  | _ => none }
def fnHostsReadRow : OpenClaim := { program := "ytoeepfmmceilaaagreatdoor", sum := "0ba5bc3c5fa6a05c041ab2aa648d82fab9135a9f6fa5a578c3a86348f85ece7c", func := "given.example/pub-passwright/laws.FnHostsRead", spec := "fnHostsRead", inPlace := ["internal/bytealg.IndexByte", "internal/bytealg.MakeNoZero"], unfollowed := true, recurses := true, named := ["encoding/binary.BigEndian", "given.example/pub-passwright/pub/ssh.certKeyAlgoNames", "io.EOF", "unicode/utf8.first", "unicode/utf8.acceptRanges"], apart := false, laid := [("unicode/utf8.acceptRanges", laid_unicode_utf8_acceptRanges), ("io.EOF", laid_io_EOF), ("given.example/pub-passwright/pub/ssh.certKeyAlgoNames", laid_given_example_pub_passwright_pub_ssh_certKeyAlgoNames), ("unicode/utf8.first", laid_unicode_utf8_first)] }
def FnHostsReadSaid : Prop := fnHostsReadRow.holds Tryz.pinned (OpenSpec.ofChange fnHostsReadSpec)

/-- ITS FALSE NEIGHBOUR: 'it returns false'. Refute it at one input. -/
def fnHostsReadWrong : ChangeSpec := { name := "fnHostsRead", vars := ["given.example/pub-passwright/pub/ssh.certKeyAlgoNames"], fn := fun _ => fun
  | [d, g1] => { results := [.lit (.bool false)], args := [d], vars := [g1] }
  | _ => none }
def FnHostsReadWrongFalsely : Prop := fnHostsReadRow.holds Tryz.pinned (OpenSpec.ofChange fnHostsReadWrong)

/-- 'laws.FnHostLine': WHATEVER THE INPUT: true; the input reads as it did. -/
def fnHostLineSpec : ChangeSpec := { name := "fnHostLine", vars := ["given.example/pub-passwright/pub/ssh.certKeyAlgoNames"], fn := fun _ => fun
  | [d1, d2, d3, g1] => { results := [.lit (.bool true)], args := [d1, d2, d3], vars := [g1] }
  | _ => none }
def fnHostLineRow : OpenClaim := { program := "ytoeepfmmceilaaagreatdoor", sum := "0ba5bc3c5fa6a05c041ab2aa648d82fab9135a9f6fa5a578c3a86348f85ece7c", func := "given.example/pub-passwright/laws.FnHostLine", spec := "fnHostLine", inPlace := ["internal/bytealg.IndexByte", "internal/bytealg.IndexByteString", "internal/abi.NoEscape", "internal/bytealg.MakeNoZero"], unfollowed := true, recurses := true, named := ["encoding/binary.BigEndian", "given.example/pub-passwright/pub/ssh.certKeyAlgoNames"], apart := false, laid := [("given.example/pub-passwright/pub/ssh.certKeyAlgoNames", laid_given_example_pub_passwright_pub_ssh_certKeyAlgoNames)] }
def FnHostLineSaid : Prop := fnHostLineRow.holds Tryz.pinned (OpenSpec.ofChange fnHostLineSpec)

/-- ITS FALSE NEIGHBOUR: 'it returns false'. Refute it at one input. -/
def fnHostLineWrong : ChangeSpec := { name := "fnHostLine", vars := ["given.example/pub-passwright/pub/ssh.certKeyAlgoNames"], fn := fun _ => fun
  | [d1, d2, d3, g1] => { results := [.lit (.bool false)], args := [d1, d2, d3], vars := [g1] }
  | _ => none }
def FnHostLineWrongFalsely : Prop := fnHostLineRow.holds Tryz.pinned (OpenSpec.ofChange fnHostLineWrong)

/-- 'laws.FnLineWritten': WHATEVER THE INPUT: true; the input reads as it did. -/
def fnLineWrittenSpec : ChangeSpec := { name := "fnLineWritten", vars := ["given.example/pub-passwright/pub/ssh.certKeyAlgoNames"], fn := fun _ => fun
  | [d, g1] => { results := [.lit (.bool true)], args := [d], vars := [g1] }
  | _ => none }
def fnLineWrittenRow : OpenClaim := { program := "ytoeepfmmceilaaagreatdoor", sum := "0ba5bc3c5fa6a05c041ab2aa648d82fab9135a9f6fa5a578c3a86348f85ece7c", func := "given.example/pub-passwright/laws.FnLineWritten", spec := "fnLineWritten", inPlace := ["internal/bytealg.IndexByte"], unfollowed := true, recurses := true, named := ["encoding/binary.BigEndian", "given.example/pub-passwright/pub/ssh.certKeyAlgoNames", "bytes.ErrTooLarge"], apart := false, laid := [("bytes.ErrTooLarge", laid_bytes_ErrTooLarge), ("given.example/pub-passwright/pub/ssh.certKeyAlgoNames", laid_given_example_pub_passwright_pub_ssh_certKeyAlgoNames)] }
def FnLineWrittenSaid : Prop := fnLineWrittenRow.holds Tryz.pinned (OpenSpec.ofChange fnLineWrittenSpec)

/-- ITS FALSE NEIGHBOUR: 'it returns false'. Refute it at one input. -/
def fnLineWrittenWrong : ChangeSpec := { name := "fnLineWritten", vars := ["given.example/pub-passwright/pub/ssh.certKeyAlgoNames"], fn := fun _ => fun
  | [d, g1] => { results := [.lit (.bool false)], args := [d], vars := [g1] }
  | _ => none }
def FnLineWrittenWrongFalsely : Prop := fnLineWrittenRow.holds Tryz.pinned (OpenSpec.ofChange fnLineWrittenWrong)

/- THE SECOND FORM. 'bulk': how many values and letters a reading holds, each counted each time it is reached (what is shared counts as often as it is met; a slice's spare places count too). A statement '..UptoSaid' is the law's where the arguments, and the package variables that the reading takes, are together of bulk at most 1048576: NARROWER than '..Said'. Prove '..Said' where nothing that the law and all that it calls make is longer than what came in: it says more and counts as full. Else prove '..UptoSaid'. A law counts once. -/
mutual
def uptoBulk {H : Type} : DataW H → Nat
  | .lit (.string bytes) => bytes.length + 1
  | .lit _ => 1
  | .nil => 1
  | .ptr d => uptoBulk d + 1
  | .slice elems spare => uptoBulkAll elems + uptoBulkAll spare + 1
  | .agg parts => uptoBulkAll parts + 1
  | .iface _ d => uptoBulk d + 1
  | .map entries => uptoBulkEntries entries + 1
  | .held _ => 1
def uptoBulkAll {H : Type} : List (DataW H) → Nat
  | [] => 0
  | d :: r => uptoBulk d + uptoBulkAll r
def uptoBulkEntries {H : Type} : List (Lit × DataW H) → Nat
  | [] => 0
  | x :: r => uptoBulkEntry x + uptoBulkEntries r
def uptoBulkEntry {H : Type} : Lit × DataW H → Nat
  | (.string bytes, d) => bytes.length + uptoBulk d + 1
  | (_, d) => uptoBulk d + 1
 end
def uptoSmall : (H : Type) → List (DataW H) → Bool := fun _ ds => decide (uptoBulkAll ds ≤ 1048576)
def OpenSpec.upto (s : _root_.Go.ChangeSpec) : _root_.Go.OpenSpec := { _root_.Go.OpenSpec.ofChange s with cond := some uptoSmall }

/-- 'laws.FnLineRead', WHERE WHAT IT READS IS OF BULK AT MOST 1048576: true; the input reads as it did. -/
def fnLineReadUptoRow : OpenClaim := { program := "ytoeepfmmceilaaagreatdoor", sum := "0ba5bc3c5fa6a05c041ab2aa648d82fab9135a9f6fa5a578c3a86348f85ece7c", func := "given.example/pub-passwright/laws.FnLineRead", spec := "fnLineRead", inPlace := ["internal/bytealg.IndexByte"], unfollowed := true, recurses := true, named := ["encoding/binary.BigEndian", "given.example/pub-passwright/pub/ssh.certKeyAlgoNames"], apart := false, laid := [("given.example/pub-passwright/pub/ssh.certKeyAlgoNames", laid_given_example_pub_passwright_pub_ssh_certKeyAlgoNames)], narrowed := true }
def FnLineReadUptoSaid : Prop := fnLineReadUptoRow.holds Tryz.pinned (OpenSpec.upto fnLineReadSpec)

/-- 'laws.FnNormalized', WHERE WHAT IT READS IS OF BULK AT MOST 1048576: true; the input reads as it did. -/
def fnNormalizedUptoRow : OpenClaim := { program := "ytoeepfmmceilaaagreatdoor", sum := "0ba5bc3c5fa6a05c041ab2aa648d82fab9135a9f6fa5a578c3a86348f85ece7c", func := "given.example/pub-passwright/laws.FnNormalized", spec := "fnNormalized", inPlace := ["internal/bytealg.IndexByte", "internal/bytealg.IndexByteString"], unfollowed := true, recurses := true, named := ["encoding/binary.BigEndian", "given.example/pub-passwright/pub/ssh.certKeyAlgoNames"], apart := false, laid := [("given.example/pub-passwright/pub/ssh.certKeyAlgoNames", laid_given_example_pub_passwright_pub_ssh_certKeyAlgoNames)], narrowed := true }
def FnNormalizedUptoSaid : Prop := fnNormalizedUptoRow.holds Tryz.pinned (OpenSpec.upto fnNormalizedSpec)

/-- 'laws.FnHostsRead', WHERE WHAT IT READS IS OF BULK AT MOST 1048576: true; the input reads as it did. -/
def fnHostsReadUptoRow : OpenClaim := { program := "ytoeepfmmceilaaagreatdoor", sum := "0ba5bc3c5fa6a05c041ab2aa648d82fab9135a9f6fa5a578c3a86348f85ece7c", func := "given.example/pub-passwright/laws.FnHostsRead", spec := "fnHostsRead", inPlace := ["internal/bytealg.IndexByte", "internal/bytealg.MakeNoZero"], unfollowed := true, recurses := true, named := ["encoding/binary.BigEndian", "given.example/pub-passwright/pub/ssh.certKeyAlgoNames", "io.EOF", "unicode/utf8.first", "unicode/utf8.acceptRanges"], apart := false, laid := [("unicode/utf8.acceptRanges", laid_unicode_utf8_acceptRanges), ("io.EOF", laid_io_EOF), ("given.example/pub-passwright/pub/ssh.certKeyAlgoNames", laid_given_example_pub_passwright_pub_ssh_certKeyAlgoNames), ("unicode/utf8.first", laid_unicode_utf8_first)], narrowed := true }
def FnHostsReadUptoSaid : Prop := fnHostsReadUptoRow.holds Tryz.pinned (OpenSpec.upto fnHostsReadSpec)

/-- 'laws.FnHostLine', WHERE WHAT IT READS IS OF BULK AT MOST 1048576: true; the input reads as it did. -/
def fnHostLineUptoRow : OpenClaim := { program := "ytoeepfmmceilaaagreatdoor", sum := "0ba5bc3c5fa6a05c041ab2aa648d82fab9135a9f6fa5a578c3a86348f85ece7c", func := "given.example/pub-passwright/laws.FnHostLine", spec := "fnHostLine", inPlace := ["internal/bytealg.IndexByte", "internal/bytealg.IndexByteString", "internal/abi.NoEscape", "internal/bytealg.MakeNoZero"], unfollowed := true, recurses := true, named := ["encoding/binary.BigEndian", "given.example/pub-passwright/pub/ssh.certKeyAlgoNames"], apart := false, laid := [("given.example/pub-passwright/pub/ssh.certKeyAlgoNames", laid_given_example_pub_passwright_pub_ssh_certKeyAlgoNames)], narrowed := true }
def FnHostLineUptoSaid : Prop := fnHostLineUptoRow.holds Tryz.pinned (OpenSpec.upto fnHostLineSpec)

/-- 'laws.FnLineWritten', WHERE WHAT IT READS IS OF BULK AT MOST 1048576: true; the input reads as it did. -/
def fnLineWrittenUptoRow : OpenClaim := { program := "ytoeepfmmceilaaagreatdoor", sum := "0ba5bc3c5fa6a05c041ab2aa648d82fab9135a9f6fa5a578c3a86348f85ece7c", func := "given.example/pub-passwright/laws.FnLineWritten", spec := "fnLineWritten", inPlace := ["internal/bytealg.IndexByte"], unfollowed := true, recurses := true, named := ["encoding/binary.BigEndian", "given.example/pub-passwright/pub/ssh.certKeyAlgoNames", "bytes.ErrTooLarge"], apart := false, laid := [("bytes.ErrTooLarge", laid_bytes_ErrTooLarge), ("given.example/pub-passwright/pub/ssh.certKeyAlgoNames", laid_given_example_pub_passwright_pub_ssh_certKeyAlgoNames)], narrowed := true }
def FnLineWrittenUptoSaid : Prop := fnLineWrittenUptoRow.holds Tryz.pinned (OpenSpec.upto fnLineWrittenSpec)

end Rows
end Go.Proofs.YtoeepfmmceilaaaGreatDoor
