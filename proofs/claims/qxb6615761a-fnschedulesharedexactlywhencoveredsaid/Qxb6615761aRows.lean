/-
  No cell of these rows narrows 'for every input' (looked for: loops, veiled, ifaces, maps, wideKeys, modest, calm, conditions, laid).
  DERIVED. THE GIVEN ROWS OF THIS SEAT. 1 by the template 'for every input the law returns true; each argument reads behind the call as it read before'; 0 by the template 'total and deterministic' (their statements: Qxb6615761aTotals.lean).
  GIVEN WITH THE SEED: the statements are not yours to turn. If you find one false, say at which input.
  Laid BY PROGRAM, IN A SANDBOX (cutbox-rows.mjs): the forced cells as the released guide's own fill.sh prints them over the translation 94d93a752244f158… (all of the seat's roots in one cut). By AI agents, Wed Nov 11 2026. No macro, syntax, notation, axiom, sorry.
-/
import Derived.Test.Qxb6615761aChecked
import GoSem.Claim
import GoSem.ClaimJoined
import GoSem.ClaimMapViews
import Derived.JoinedTies
import Derived.KernelRfl
namespace Go.Proofs.Qxb6615761a
/- THE CELL 'sum', in the pinned program and in every row, IS THE sha256 OF THE DUMP (.gsa) THAT Qxb6615761aProg.lean LOADS. Nothing in Lean hashes anything: it is a label: what it is worth is what the hold of that sum in a sandbox is worth. -/
noncomputable def Try.pinned : Pinned := { name := "qxb6615761a", sum := "94d93a752244f1583fb10994a038d8dcac6dd788933e56b638e626ca7c5e0529", checked := Try.checked }
namespace Rows
def none {H : Type} : Left H := { results := [], args := [] }

/-- 'zzlaws_root_b1.FnScheduleSharedExactlyWhenCovered': WHATEVER THE INPUT: true; the input reads as it did. -/
def fnScheduleSharedExactlyWhenCoveredSpec : ChangeSpec := { name := "fnScheduleSharedExactlyWhenCovered", fn := fun _ => fun
  | [d1, d2, d3, d4] => { results := [.lit (.bool true)], args := [d1, d2, d3, d4] }
  | _ => none }
def fnScheduleSharedExactlyWhenCoveredRow : OpenClaim := { program := "qxb6615761a", sum := "94d93a752244f1583fb10994a038d8dcac6dd788933e56b638e626ca7c5e0529", func := "example.com/zhaomu/zhaomu/zzlaws_root_b1.FnScheduleSharedExactlyWhenCovered", spec := "fnScheduleSharedExactlyWhenCovered", apart := false }
def FnScheduleSharedExactlyWhenCoveredSaid : Prop := fnScheduleSharedExactlyWhenCoveredRow.holds Try.pinned (OpenSpec.ofChange fnScheduleSharedExactlyWhenCoveredSpec)

/-- ITS FALSE NEIGHBOUR: 'it returns false'. Refute it at one input. -/
def fnScheduleSharedExactlyWhenCoveredWrong : ChangeSpec := { name := "fnScheduleSharedExactlyWhenCovered", fn := fun _ => fun
  | [d1, d2, d3, d4] => { results := [.lit (.bool false)], args := [d1, d2, d3, d4] }
  | _ => none }
def FnScheduleSharedExactlyWhenCoveredWrongFalsely : Prop := fnScheduleSharedExactlyWhenCoveredRow.holds Try.pinned (OpenSpec.ofChange fnScheduleSharedExactlyWhenCoveredWrong)

end Rows
end Go.Proofs.Qxb6615761a
