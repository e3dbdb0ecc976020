/-
  DERIVED. GIVEN WITH THE SEED: THE CARDS: each row of Qxb6000837aDoorRows.lean that lists a variable, with what it lists TIED to the program's text (the seventh form; the later family's looks); each row that meets fmt, with fmt's text TOLD by the authors' own Lean function (tested against real Go, not proved from fmt's source: count such statements apart). THE CARD IS WHAT COUNTS. Prove the row's statement (the work); the ties are given (Qxb6000837aDoorTie.lean); close each card by the builder's one call (the guide's Derived/Test/ToyasCard.lean, 'card_holds'). Laid BY PROGRAM, IN A SANDBOX (cutbox-door.mjs). By AI agents, Wed Nov 11 2026. No macro, syntax, notation, axiom, sorry.
-/
import Derived.Test.Qxb6000837aDoorRows
import GoSem.ClaimSeven
namespace Go.Proofs.Qxb6000837aDoor
namespace Rows

/-- THE TIED CARD OF 'zzlaws_root_b1.FnIsDigitsAcceptsWrittenIndex'. -/
def fnIsDigitsAcceptsWrittenIndexCard : Claim7 := { stood := { row := fnIsDigitsAcceptsWrittenIndexRow, standIns := [], harness := (true, "f8e19f2247e681f18af1d4d77fc27e92b0a567347984629380b40457c7e67a32"), looks := false }, kinds := [], alts := [], laidByText := true, laidKinds := [.data, .data, .data], laidTests := true, laidLooks := .later }
def FnIsDigitsAcceptsWrittenIndexCardSaid : Prop := Claim7.holds Tryd.pinned (.plain (OpenSpec.ofChange fnIsDigitsAcceptsWrittenIndexSpec)) fnIsDigitsAcceptsWrittenIndexCard

/-- THE TIED CARD OF 'zzlaws_root_b1.FnPathWrittenReadsBack'. -/
def fnPathWrittenReadsBackCard : Claim7 := { stood := { row := fnPathWrittenReadsBackRow, standIns := [], harness := (true, "f8e19f2247e681f18af1d4d77fc27e92b0a567347984629380b40457c7e67a32"), looks := false }, kinds := [], alts := [], laidByText := true, laidKinds := [.data, .data, .data], laidTests := true, laidLooks := .later }
def FnPathWrittenReadsBackCardSaid : Prop := Claim7.holds Tryd.pinned (.plain (OpenSpec.ofChange fnPathWrittenReadsBackSpec)) fnPathWrittenReadsBackCard

/-- THE TIED CARD OF 'zzlaws_root_b1.FnPathAppendKeepsWhatWasThere'. -/
def fnPathAppendKeepsWhatWasThereCard : Claim7 := { stood := { row := fnPathAppendKeepsWhatWasThereRow, standIns := [], harness := (true, "f8e19f2247e681f18af1d4d77fc27e92b0a567347984629380b40457c7e67a32"), looks := false }, kinds := [], alts := [], laidByText := true, laidKinds := [.data, .data, .data], laidTests := true, laidLooks := .later }
def FnPathAppendKeepsWhatWasThereCardSaid : Prop := Claim7.holds Tryd.pinned (.plain (OpenSpec.ofChange fnPathAppendKeepsWhatWasThereSpec)) fnPathAppendKeepsWhatWasThereCard
end Rows
end Go.Proofs.Qxb6000837aDoor
