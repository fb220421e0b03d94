/-
  No cell of these rows narrows 'for every input' (looked for: loops, veiled, ifaces, maps, wideKeys, modest, calm, conditions, laid).
  DERIVED. THE GIVEN ROWS OF THIS SEAT. 2 by the template 'for every input the law returns true; each argument reads behind the call as it read before'; 0 by the template 'total and deterministic' (their statements: Qxb6615587aTotals.lean).
  GIVEN WITH THE SEED: the statements are not yours to turn. If you find one false, say at which input.
  Laid BY PROGRAM, IN A SANDBOX (cutbox-rows.mjs): the forced cells as the released guide's own fill.sh prints them over the translation 11266a7c717ed452… (all of the seat's roots in one cut). By AI agents, Wed Nov 11 2026. No macro, syntax, notation, axiom, sorry.
-/
import Derived.Test.Qxb6615587aChecked
import GoSem.Claim
import GoSem.ClaimJoined
import GoSem.ClaimMapViews
import Derived.JoinedTies
import Derived.KernelRfl
namespace Go.Proofs.Qxb6615587a
/- THE CELL 'sum', in the pinned program and in every row, IS THE sha256 OF THE DUMP (.gsa) THAT Qxb6615587aProg.lean LOADS. Nothing in Lean hashes anything: it is a label: what it is worth is what the hold of that sum in a sandbox is worth. -/
noncomputable def Try.pinned : Pinned := { name := "qxb6615587a", sum := "11266a7c717ed45242217d265caaf8adb090c30470828849f60651220c6e6474", checked := Try.checked }
namespace Rows
def none {H : Type} : Left H := { results := [], args := [] }

/-- 'zzlaws_root_b1.FnSpansAddsUpAtAnyCut': WHATEVER THE INPUT: true; the input reads as it did. -/
def fnSpansAddsUpAtAnyCutSpec : ChangeSpec := { name := "fnSpansAddsUpAtAnyCut", fn := fun _ => fun
  | [d1, d2, d3, d4, d5, d6, d7] => { results := [.lit (.bool true)], args := [d1, d2, d3, d4, d5, d6, d7] }
  | _ => none }
def fnSpansAddsUpAtAnyCutRow : OpenClaim := { program := "qxb6615587a", sum := "11266a7c717ed45242217d265caaf8adb090c30470828849f60651220c6e6474", func := "example.com/precedence/precedence/zzlaws_root_b1.FnSpansAddsUpAtAnyCut", spec := "fnSpansAddsUpAtAnyCut", unfollowed := true, recurses := true, apart := false }
def FnSpansAddsUpAtAnyCutSaid : Prop := fnSpansAddsUpAtAnyCutRow.holds Try.pinned (OpenSpec.ofChange fnSpansAddsUpAtAnyCutSpec)

/-- ITS FALSE NEIGHBOUR: 'it returns false'. Refute it at one input. -/
def fnSpansAddsUpAtAnyCutWrong : ChangeSpec := { name := "fnSpansAddsUpAtAnyCut", fn := fun _ => fun
  | [d1, d2, d3, d4, d5, d6, d7] => { results := [.lit (.bool false)], args := [d1, d2, d3, d4, d5, d6, d7] }
  | _ => none }
def FnSpansAddsUpAtAnyCutWrongFalsely : Prop := fnSpansAddsUpAtAnyCutRow.holds Try.pinned (OpenSpec.ofChange fnSpansAddsUpAtAnyCutWrong)

/-- 'zzlaws_root_b1.FnSpansAgreesWithLinearScan': WHATEVER THE INPUT: true; the input reads as it did. -/
def fnSpansAgreesWithLinearScanSpec : ChangeSpec := { name := "fnSpansAgreesWithLinearScan", fn := fun _ => fun
  | [d1, d2, d3, d4, d5, d6, d7, d8] => { results := [.lit (.bool true)], args := [d1, d2, d3, d4, d5, d6, d7, d8] }
  | _ => none }
def fnSpansAgreesWithLinearScanRow : OpenClaim := { program := "qxb6615587a", sum := "11266a7c717ed45242217d265caaf8adb090c30470828849f60651220c6e6474", func := "example.com/precedence/precedence/zzlaws_root_b1.FnSpansAgreesWithLinearScan", spec := "fnSpansAgreesWithLinearScan", unfollowed := true, recurses := true, apart := false }
def FnSpansAgreesWithLinearScanSaid : Prop := fnSpansAgreesWithLinearScanRow.holds Try.pinned (OpenSpec.ofChange fnSpansAgreesWithLinearScanSpec)

/-- ITS FALSE NEIGHBOUR: 'it returns false'. Refute it at one input. -/
def fnSpansAgreesWithLinearScanWrong : ChangeSpec := { name := "fnSpansAgreesWithLinearScan", fn := fun _ => fun
  | [d1, d2, d3, d4, d5, d6, d7, d8] => { results := [.lit (.bool false)], args := [d1, d2, d3, d4, d5, d6, d7, d8] }
  | _ => none }
def FnSpansAgreesWithLinearScanWrongFalsely : Prop := fnSpansAgreesWithLinearScanRow.holds Try.pinned (OpenSpec.ofChange fnSpansAgreesWithLinearScanWrong)

end Rows
end Go.Proofs.Qxb6615587a
