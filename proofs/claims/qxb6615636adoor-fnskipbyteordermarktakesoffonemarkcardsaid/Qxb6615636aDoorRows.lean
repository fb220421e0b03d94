/-
  NARROWER THAN 'FOR EVERY INPUT', by the rows' own cells (each row's printed sentence says how): FnLimitedTextReadScript: ifaces, laid · FnLimitedTextReadsToItsEnd: ifaces, laid · FnSkipByteOrderMarkTakesOffOneMark: ifaces, laid.
  DERIVED. THE GIVEN ROWS OF THIS SEAT. 3 by the template 'for every input the law returns true; each argument reads behind the call as it read before'; 0 by the template 'total and deterministic' (their statements: Qxb6615636aDoorTotals.lean).
  GIVEN WITH THE SEED: the statements are not yours to turn. If you find one false, say at which input.
  Laid BY PROGRAM, IN A SANDBOX (cutbox-rows.mjs): the forced cells as the released guide's own fill.sh prints them over the translation d7a43bebc02c1978… (all of the seat's roots in one cut). By AI agents, Wed Nov 11 2026. No macro, syntax, notation, axiom, sorry.
-/
import Derived.Test.Qxb6615636aDoorChecked
import GoSem.Claim
import GoSem.ClaimJoined
import GoSem.ClaimMapViews
import Derived.JoinedTies
import Derived.KernelRfl
namespace Go.Proofs.Qxb6615636aDoor
/- THE CELL 'sum', in the pinned program and in every row, IS THE sha256 OF THE DUMP (.gsa) THAT Qxb6615636aDoorProg.lean LOADS. Nothing in Lean hashes anything: it is a label: what it is worth is what the hold of that sum in a sandbox is worth. -/
noncomputable def Tryd.pinned : Pinned := { name := "qxb6615636adoor", sum := "d7a43bebc02c1978a70c4b41b2df232b58214d21c61733ef7937ff53d9a3545e", checked := Tryd.checked }
namespace Rows
def none {H : Type} : Left H := { results := [], args := [] }

/- WHAT THE LISTED PACKAGE-LEVEL VARIABLES READ AS WHEN THE CALL BEGINS. Each datum BY PROGRAM (the guide's laid-datum.mjs) off the statement by which the dump's own 'gosem.cut.vars' lays the variable. In a bare row this is a premise. The card (Qxb6615636aDoorCards.lean) ties it to the program's text. -/
def laid_io_EOF {H : Type} : DataW H := .iface "*errors.errorString" (.ptr (.agg [.lit (.string [69, 79, 70])]))
def laid_example_com_vestling_vestling_inputfile_errPastLimit {H : Type} : DataW H := .iface "*errors.errorString" (.ptr (.agg [.lit (.string [116, 104, 101, 32, 116, 101, 120, 116, 32, 103, 111, 101, 115, 32, 111, 110, 32, 112, 97, 115, 116, 32, 116, 104, 101, 32, 109, 111, 115, 116, 32, 97, 32, 102, 105, 108, 101, 32, 111, 102, 32, 105, 116, 115, 32, 107, 105, 110, 100, 32, 104, 111, 108, 100, 115])]))
def laid_io_ErrNoProgress {H : Type} : DataW H := .iface "*errors.errorString" (.ptr (.agg [.lit (.string [109, 117, 108, 116, 105, 112, 108, 101, 32, 82, 101, 97, 100, 32, 99, 97, 108, 108, 115, 32, 114, 101, 116, 117, 114, 110, 32, 110, 111, 32, 100, 97, 116, 97, 32, 111, 114, 32, 101, 114, 114, 111, 114])]))
def laid_bufio_ErrBufferFull {H : Type} : DataW H := .iface "*errors.errorString" (.ptr (.agg [.lit (.string [98, 117, 102, 105, 111, 58, 32, 98, 117, 102, 102, 101, 114, 32, 102, 117, 108, 108])]))
def laid_bufio_ErrNegativeCount {H : Type} : DataW H := .iface "*errors.errorString" (.ptr (.agg [.lit (.string [98, 117, 102, 105, 111, 58, 32, 110, 101, 103, 97, 116, 105, 118, 101, 32, 99, 111, 117, 110, 116])]))
def laid_bufio_errNegativeRead {H : Type} : DataW H := .iface "*errors.errorString" (.ptr (.agg [.lit (.string [98, 117, 102, 105, 111, 58, 32, 114, 101, 97, 100, 101, 114, 32, 114, 101, 116, 117, 114, 110, 101, 100, 32, 110, 101, 103, 97, 116, 105, 118, 101, 32, 99, 111, 117, 110, 116, 32, 102, 114, 111, 109, 32, 82, 101, 97, 100])]))

/-- 'zzlaws_inputfile_b1.FnLimitedTextReadScript': WHATEVER THE INPUT: true; the input reads as it did. -/
def fnLimitedTextReadScriptSpec : ChangeSpec := { name := "fnLimitedTextReadScript", vars := ["example.com/vestling/vestling/inputfile.errPastLimit"], fn := fun _ => fun
  | [d1, d2, d3, g1] => { results := [.lit (.bool true)], args := [d1, d2, d3], vars := [g1] }
  | _ => none }
def fnLimitedTextReadScriptRow : OpenClaim := { program := "qxb6615636adoor", sum := "d7a43bebc02c1978a70c4b41b2df232b58214d21c61733ef7937ff53d9a3545e", func := "example.com/vestling/vestling/zzlaws_inputfile_b1.FnLimitedTextReadScript", spec := "fnLimitedTextReadScript", unfollowed := true, recurses := true, named := ["io.EOF", "example.com/vestling/vestling/inputfile.errPastLimit"], ifaces := true, apart := false, laid := [("io.EOF", laid_io_EOF), ("example.com/vestling/vestling/inputfile.errPastLimit", laid_example_com_vestling_vestling_inputfile_errPastLimit)] }
def FnLimitedTextReadScriptSaid : Prop := fnLimitedTextReadScriptRow.holds Tryd.pinned (OpenSpec.ofChange fnLimitedTextReadScriptSpec)

/-- ITS FALSE NEIGHBOUR: 'it returns false'. Refute it at one input. -/
def fnLimitedTextReadScriptWrong : ChangeSpec := { name := "fnLimitedTextReadScript", vars := ["example.com/vestling/vestling/inputfile.errPastLimit"], fn := fun _ => fun
  | [d1, d2, d3, g1] => { results := [.lit (.bool false)], args := [d1, d2, d3], vars := [g1] }
  | _ => none }
def FnLimitedTextReadScriptWrongFalsely : Prop := fnLimitedTextReadScriptRow.holds Tryd.pinned (OpenSpec.ofChange fnLimitedTextReadScriptWrong)

/-- 'zzlaws_inputfile_b1.FnLimitedTextReadsToItsEnd': WHATEVER THE INPUT: true; the input reads as it did. -/
def fnLimitedTextReadsToItsEndSpec : ChangeSpec := { name := "fnLimitedTextReadsToItsEnd", vars := ["example.com/vestling/vestling/inputfile.errPastLimit"], fn := fun _ => fun
  | [d1, d2, d3, g1] => { results := [.lit (.bool true)], args := [d1, d2, d3], vars := [g1] }
  | _ => none }
def fnLimitedTextReadsToItsEndRow : OpenClaim := { program := "qxb6615636adoor", sum := "d7a43bebc02c1978a70c4b41b2df232b58214d21c61733ef7937ff53d9a3545e", func := "example.com/vestling/vestling/zzlaws_inputfile_b1.FnLimitedTextReadsToItsEnd", spec := "fnLimitedTextReadsToItsEnd", unfollowed := true, recurses := true, named := ["io.EOF", "example.com/vestling/vestling/inputfile.errPastLimit"], ifaces := true, apart := false, laid := [("io.EOF", laid_io_EOF), ("example.com/vestling/vestling/inputfile.errPastLimit", laid_example_com_vestling_vestling_inputfile_errPastLimit)] }
def FnLimitedTextReadsToItsEndSaid : Prop := fnLimitedTextReadsToItsEndRow.holds Tryd.pinned (OpenSpec.ofChange fnLimitedTextReadsToItsEndSpec)

/-- ITS FALSE NEIGHBOUR: 'it returns false'. Refute it at one input. -/
def fnLimitedTextReadsToItsEndWrong : ChangeSpec := { name := "fnLimitedTextReadsToItsEnd", vars := ["example.com/vestling/vestling/inputfile.errPastLimit"], fn := fun _ => fun
  | [d1, d2, d3, g1] => { results := [.lit (.bool false)], args := [d1, d2, d3], vars := [g1] }
  | _ => none }
def FnLimitedTextReadsToItsEndWrongFalsely : Prop := fnLimitedTextReadsToItsEndRow.holds Tryd.pinned (OpenSpec.ofChange fnLimitedTextReadsToItsEndWrong)

/-- 'zzlaws_inputfile_b1.FnSkipByteOrderMarkTakesOffOneMark': WHATEVER THE INPUT: true; the input reads as it did. -/
def fnSkipByteOrderMarkTakesOffOneMarkSpec : ChangeSpec := { name := "fnSkipByteOrderMarkTakesOffOneMark", vars := ["example.com/vestling/vestling/inputfile.errPastLimit"], fn := fun _ => fun
  | [d, g1] => { results := [.lit (.bool true)], args := [d], vars := [g1] }
  | _ => none }
def fnSkipByteOrderMarkTakesOffOneMarkRow : OpenClaim := { program := "qxb6615636adoor", sum := "d7a43bebc02c1978a70c4b41b2df232b58214d21c61733ef7937ff53d9a3545e", func := "example.com/vestling/vestling/zzlaws_inputfile_b1.FnSkipByteOrderMarkTakesOffOneMark", spec := "fnSkipByteOrderMarkTakesOffOneMark", unfollowed := true, recurses := true, named := ["bufio.ErrNegativeCount", "bufio.ErrBufferFull", "bufio.errNegativeRead", "io.ErrNoProgress", "io.EOF", "example.com/vestling/vestling/inputfile.errPastLimit"], ifaces := true, apart := false, laid := [("io.EOF", laid_io_EOF), ("io.ErrNoProgress", laid_io_ErrNoProgress), ("bufio.ErrBufferFull", laid_bufio_ErrBufferFull), ("bufio.ErrNegativeCount", laid_bufio_ErrNegativeCount), ("bufio.errNegativeRead", laid_bufio_errNegativeRead), ("example.com/vestling/vestling/inputfile.errPastLimit", laid_example_com_vestling_vestling_inputfile_errPastLimit)] }
def FnSkipByteOrderMarkTakesOffOneMarkSaid : Prop := fnSkipByteOrderMarkTakesOffOneMarkRow.holds Tryd.pinned (OpenSpec.ofChange fnSkipByteOrderMarkTakesOffOneMarkSpec)

/-- ITS FALSE NEIGHBOUR: 'it returns false'. Refute it at one input. -/
def fnSkipByteOrderMarkTakesOffOneMarkWrong : ChangeSpec := { name := "fnSkipByteOrderMarkTakesOffOneMark", vars := ["example.com/vestling/vestling/inputfile.errPastLimit"], fn := fun _ => fun
  | [d, g1] => { results := [.lit (.bool false)], args := [d], vars := [g1] }
  | _ => none }
def FnSkipByteOrderMarkTakesOffOneMarkWrongFalsely : Prop := fnSkipByteOrderMarkTakesOffOneMarkRow.holds Tryd.pinned (OpenSpec.ofChange fnSkipByteOrderMarkTakesOffOneMarkWrong)

end Rows
end Go.Proofs.Qxb6615636aDoor
