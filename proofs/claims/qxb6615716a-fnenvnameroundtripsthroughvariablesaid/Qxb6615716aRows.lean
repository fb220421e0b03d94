/-
  No cell of these rows narrows 'for every input' (looked for: loops, veiled, ifaces, maps, wideKeys, modest, calm, conditions, laid).
  DERIVED. THE GIVEN ROWS OF THIS SEAT. 2 by the template 'for every input the law returns true; each argument reads behind the call as it read before'; 0 by the template 'total and deterministic' (their statements: Qxb6615716aTotals.lean).
  GIVEN WITH THE SEED: the statements are not yours to turn. If you find one false, say at which input.
  Laid BY PROGRAM, IN A SANDBOX (cutbox-rows.mjs): the forced cells as the released guide's own fill.sh prints them over the translation c909591aeb3cb0a8… (all of the seat's roots in one cut). By AI agents, Wed Nov 11 2026. No macro, syntax, notation, axiom, sorry.
-/
import Derived.Test.Qxb6615716aChecked
import GoSem.Claim
import GoSem.ClaimJoined
import GoSem.ClaimMapViews
import Derived.JoinedTies
import Derived.KernelRfl
namespace Go.Proofs.Qxb6615716a
/- THE CELL 'sum', in the pinned program and in every row, IS THE sha256 OF THE DUMP (.gsa) THAT Qxb6615716aProg.lean LOADS. Nothing in Lean hashes anything: it is a label: what it is worth is what the hold of that sum in a sandbox is worth. -/
noncomputable def Try.pinned : Pinned := { name := "qxb6615716a", sum := "c909591aeb3cb0a888dc307d651320368fb8791c23a1bd65d80045fc59d2145e", checked := Try.checked }
namespace Rows
def none {H : Type} : Left H := { results := [], args := [] }

/-- 'zzlaws_internal_plan_b1.FnEnvNameRoundTripsThroughVariable': WHATEVER THE INPUT: true; the input reads as it did. -/
def fnEnvNameRoundTripsThroughVariableSpec : ChangeSpec := { name := "fnEnvNameRoundTripsThroughVariable", fn := fun _ => fun
  | [d] => { results := [.lit (.bool true)], args := [d] }
  | _ => none }
def fnEnvNameRoundTripsThroughVariableRow : OpenClaim := { program := "qxb6615716a", sum := "c909591aeb3cb0a888dc307d651320368fb8791c23a1bd65d80045fc59d2145e", func := "example.com/rehearsal/rehearsal/zzlaws_internal_plan_b1.FnEnvNameRoundTripsThroughVariable", spec := "fnEnvNameRoundTripsThroughVariable", apart := false }
def FnEnvNameRoundTripsThroughVariableSaid : Prop := fnEnvNameRoundTripsThroughVariableRow.holds Try.pinned (OpenSpec.ofChange fnEnvNameRoundTripsThroughVariableSpec)

/-- ITS FALSE NEIGHBOUR: 'it returns false'. Refute it at one input. -/
def fnEnvNameRoundTripsThroughVariableWrong : ChangeSpec := { name := "fnEnvNameRoundTripsThroughVariable", fn := fun _ => fun
  | [d] => { results := [.lit (.bool false)], args := [d] }
  | _ => none }
def FnEnvNameRoundTripsThroughVariableWrongFalsely : Prop := fnEnvNameRoundTripsThroughVariableRow.holds Try.pinned (OpenSpec.ofChange fnEnvNameRoundTripsThroughVariableWrong)

/-- 'zzlaws_internal_plan_b1.FnEnvNameKeepsJoinsAndOrder': WHATEVER THE INPUT: true; the input reads as it did. -/
def fnEnvNameKeepsJoinsAndOrderSpec : ChangeSpec := { name := "fnEnvNameKeepsJoinsAndOrder", fn := fun _ => fun
  | [d1, d2] => { results := [.lit (.bool true)], args := [d1, d2] }
  | _ => none }
def fnEnvNameKeepsJoinsAndOrderRow : OpenClaim := { program := "qxb6615716a", sum := "c909591aeb3cb0a888dc307d651320368fb8791c23a1bd65d80045fc59d2145e", func := "example.com/rehearsal/rehearsal/zzlaws_internal_plan_b1.FnEnvNameKeepsJoinsAndOrder", spec := "fnEnvNameKeepsJoinsAndOrder", apart := false }
def FnEnvNameKeepsJoinsAndOrderSaid : Prop := fnEnvNameKeepsJoinsAndOrderRow.holds Try.pinned (OpenSpec.ofChange fnEnvNameKeepsJoinsAndOrderSpec)

/-- ITS FALSE NEIGHBOUR: 'it returns false'. Refute it at one input. -/
def fnEnvNameKeepsJoinsAndOrderWrong : ChangeSpec := { name := "fnEnvNameKeepsJoinsAndOrder", fn := fun _ => fun
  | [d1, d2] => { results := [.lit (.bool false)], args := [d1, d2] }
  | _ => none }
def FnEnvNameKeepsJoinsAndOrderWrongFalsely : Prop := fnEnvNameKeepsJoinsAndOrderRow.holds Try.pinned (OpenSpec.ofChange fnEnvNameKeepsJoinsAndOrderWrong)

end Rows
end Go.Proofs.Qxb6615716a
