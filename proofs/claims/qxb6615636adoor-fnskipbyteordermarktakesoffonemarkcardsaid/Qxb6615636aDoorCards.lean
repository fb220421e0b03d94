/-
  DERIVED. GIVEN WITH THE SEED: THE CARDS: each row of Qxb6615636aDoorRows.lean that lists a variable, with what it lists TIED to the program's text (the seventh form; the later family's looks); each row that meets fmt, with fmt's text TOLD by the authors' own Lean function (tested against real Go, not proved from fmt's source: count such statements apart). THE CARD IS WHAT COUNTS. Prove the row's statement (the work); the ties are given (Qxb6615636aDoorTie.lean); close each card by the builder's one call (the guide's Derived/Test/ToyasCard.lean, 'card_holds'). Laid BY PROGRAM, IN A SANDBOX (cutbox-door.mjs). By AI agents, Wed Nov 11 2026. No macro, syntax, notation, axiom, sorry.
-/
import Derived.Test.Qxb6615636aDoorRows
import GoSem.ClaimSeven
namespace Go.Proofs.Qxb6615636aDoor
namespace Rows

/-- THE TIED CARD OF 'zzlaws_inputfile_b1.FnLimitedTextReadScript'. -/
def fnLimitedTextReadScriptCard : Claim7 := { stood := { row := fnLimitedTextReadScriptRow, standIns := [], harness := (true, "46797cb3fb60baf7c139aafe205f0d7b5fe94c5b67a4f667fafbaf0f5e506cfc"), looks := true }, kinds := [], alts := [], laidByText := true, laidKinds := [.sentinel, .sentinel], laidTests := true, laidLooks := .later }
def FnLimitedTextReadScriptCardSaid : Prop := Claim7.holds Tryd.pinned (.plain (OpenSpec.ofChange fnLimitedTextReadScriptSpec)) fnLimitedTextReadScriptCard

/-- THE TIED CARD OF 'zzlaws_inputfile_b1.FnLimitedTextReadsToItsEnd'. -/
def fnLimitedTextReadsToItsEndCard : Claim7 := { stood := { row := fnLimitedTextReadsToItsEndRow, standIns := [], harness := (true, "46797cb3fb60baf7c139aafe205f0d7b5fe94c5b67a4f667fafbaf0f5e506cfc"), looks := true }, kinds := [], alts := [], laidByText := true, laidKinds := [.sentinel, .sentinel], laidTests := true, laidLooks := .later }
def FnLimitedTextReadsToItsEndCardSaid : Prop := Claim7.holds Tryd.pinned (.plain (OpenSpec.ofChange fnLimitedTextReadsToItsEndSpec)) fnLimitedTextReadsToItsEndCard

/-- THE TIED CARD OF 'zzlaws_inputfile_b1.FnSkipByteOrderMarkTakesOffOneMark'. -/
def fnSkipByteOrderMarkTakesOffOneMarkCard : Claim7 := { stood := { row := fnSkipByteOrderMarkTakesOffOneMarkRow, standIns := [], harness := (true, "46797cb3fb60baf7c139aafe205f0d7b5fe94c5b67a4f667fafbaf0f5e506cfc"), looks := true }, kinds := [], alts := [], laidByText := true, laidKinds := [.sentinel, .sentinel, .sentinel, .sentinel, .sentinel, .sentinel], laidTests := true, laidLooks := .later }
def FnSkipByteOrderMarkTakesOffOneMarkCardSaid : Prop := Claim7.holds Tryd.pinned (.plain (OpenSpec.ofChange fnSkipByteOrderMarkTakesOffOneMarkSpec)) fnSkipByteOrderMarkTakesOffOneMarkCard
end Rows
end Go.Proofs.Qxb6615636aDoor
