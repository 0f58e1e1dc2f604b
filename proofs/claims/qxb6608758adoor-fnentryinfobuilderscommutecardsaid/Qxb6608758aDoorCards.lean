/-
  DERIVED. GIVEN WITH THE SEED: THE CARDS: each row of Qxb6608758aDoorRows.lean that lists a variable, with what it lists TIED to the program's text (the seventh form; the later family's looks); each row that meets fmt, with fmt's text TOLD by the authors' own Lean function (tested against real Go, not proved from fmt's source: count such statements apart). THE CARD IS WHAT COUNTS. Prove the row's statement (the work); the ties are given (Qxb6608758aDoorTie.lean); close each card by the builder's one call (the guide's Derived/Test/ToyasCard.lean, 'card_holds'). Laid BY PROGRAM, IN A SANDBOX (cutbox-door.mjs). By AI agents, Wed Nov 11 2026. No macro, syntax, notation, axiom, sorry.
-/
import Derived.Test.Qxb6608758aDoorRows
import GoSem.ClaimSeven
namespace Go.Proofs.Qxb6608758aDoor
namespace Rows

/-- THE TIED CARD OF 'zzlaws_document_b1.FnEntryInfoBuildersCommute'. -/
def fnEntryInfoBuildersCommuteCard : Claim7 := { stood := { row := fnEntryInfoBuildersCommuteRow, standIns := [], harness := (true, "b5e6087324de49a302dbcb12610fe5875ae06866d4adf3cc57626d84f530665e"), looks := true }, kinds := [], alts := [], laidByText := true, laidKinds := [.data], laidTests := true, laidLooks := .later }
def FnEntryInfoBuildersCommuteCardSaid : Prop := Claim7.holds Tryd.pinned (.plain (OpenSpec.ofChange fnEntryInfoBuildersCommuteSpec)) fnEntryInfoBuildersCommuteCard

/-- THE TIED CARD OF 'zzlaws_document_b1.FnWithLinksLastWins'. -/
def fnWithLinksLastWinsCard : Claim7 := { stood := { row := fnWithLinksLastWinsRow, standIns := [], harness := (true, "b5e6087324de49a302dbcb12610fe5875ae06866d4adf3cc57626d84f530665e"), looks := true }, kinds := [], alts := [], laidByText := true, laidKinds := [.data], laidTests := true, laidLooks := .later }
def FnWithLinksLastWinsCardSaid : Prop := Claim7.holds Tryd.pinned (.plain (OpenSpec.ofChange fnWithLinksLastWinsSpec)) fnWithLinksLastWinsCard

/-- THE TIED CARD OF 'zzlaws_document_b1.FnWithIncludedLastWins'. -/
def fnWithIncludedLastWinsCard : Claim7 := { stood := { row := fnWithIncludedLastWinsRow, standIns := [], harness := (true, "b5e6087324de49a302dbcb12610fe5875ae06866d4adf3cc57626d84f530665e"), looks := true }, kinds := [], alts := [], laidByText := true, laidKinds := [.data], laidTests := true, laidLooks := .later }
def FnWithIncludedLastWinsCardSaid : Prop := Claim7.holds Tryd.pinned (.plain (OpenSpec.ofChange fnWithIncludedLastWinsSpec)) fnWithIncludedLastWinsCard
end Rows
end Go.Proofs.Qxb6608758aDoor
