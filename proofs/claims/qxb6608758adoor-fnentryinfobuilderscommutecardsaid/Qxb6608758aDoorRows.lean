/-
  NARROWER THAN 'FOR EVERY INPUT', by the rows' own cells (each row's printed sentence says how): FnEntryInfoBuildersCommute: laid · FnWithLinksLastWins: laid · FnWithIncludedLastWins: laid.
  DERIVED. THE GIVEN ROWS OF THIS SEAT. 3 by the template 'for every input the law returns true; each argument reads behind the call as it read before'; 0 by the template 'total and deterministic' (their statements: Qxb6608758aDoorTotals.lean).
  GIVEN WITH THE SEED: the statements are not yours to turn. If you find one false, say at which input.
  Laid BY PROGRAM, IN A SANDBOX (cutbox-rows.mjs): the forced cells as the released guide's own fill.sh prints them over the translation 24953261bde1a007… (all of the seat's roots in one cut). By AI agents, Wed Nov 11 2026. No macro, syntax, notation, axiom, sorry.
-/
import Derived.Test.Qxb6608758aDoorChecked
import GoSem.Claim
import GoSem.ClaimJoined
import GoSem.ClaimMapViews
import Derived.JoinedTies
import Derived.KernelRfl
namespace Go.Proofs.Qxb6608758aDoor
/- THE CELL 'sum', in the pinned program and in every row, IS THE sha256 OF THE DUMP (.gsa) THAT Qxb6608758aDoorProg.lean LOADS. Nothing in Lean hashes anything: it is a label: what it is worth is what the hold of that sum in a sandbox is worth. -/
noncomputable def Tryd.pinned : Pinned := { name := "qxb6608758adoor", sum := "24953261bde1a007f2c487f83f7da12f1370213665462654192394a9a279bdda", checked := Tryd.checked }
namespace Rows
def none {H : Type} : Left H := { results := [], args := [] }

/- WHAT THE LISTED PACKAGE-LEVEL VARIABLES READ AS WHEN THE CALL BEGINS. Each datum BY PROGRAM (the guide's laid-datum.mjs) off the statement by which the dump's own 'gosem.cut.vars' lays the variable. In a bare row this is a premise. The card (Qxb6608758aDoorCards.lean) ties it to the program's text. -/
def laid_example_com_bravais_bravais_document_jsonapi {H : Type} : DataW H := .agg [.lit (.string [49, 46, 49]), .agg [.lit (.string [79, 80, 84, 73, 77, 65, 68, 69]), .lit (.string [49, 46, 50, 46, 48])]]

/-- 'zzlaws_document_b1.FnEntryInfoBuildersCommute': WHATEVER THE INPUT: true; the input reads as it did. -/
def fnEntryInfoBuildersCommuteSpec : ChangeSpec := { name := "fnEntryInfoBuildersCommute", vars := ["example.com/bravais/bravais/document.jsonapi"], fn := fun _ => fun
  | [d1, d2, d3, d4, d5, g1] => { results := [.lit (.bool true)], args := [d1, d2, d3, d4, d5], vars := [g1] }
  | _ => none }
def fnEntryInfoBuildersCommuteRow : OpenClaim := { program := "qxb6608758adoor", sum := "24953261bde1a007f2c487f83f7da12f1370213665462654192394a9a279bdda", func := "example.com/bravais/bravais/zzlaws_document_b1.FnEntryInfoBuildersCommute", spec := "fnEntryInfoBuildersCommute", named := ["example.com/bravais/bravais/document.jsonapi"], apart := false, laid := [("example.com/bravais/bravais/document.jsonapi", laid_example_com_bravais_bravais_document_jsonapi)] }
def FnEntryInfoBuildersCommuteSaid : Prop := fnEntryInfoBuildersCommuteRow.holds Tryd.pinned (OpenSpec.ofChange fnEntryInfoBuildersCommuteSpec)

/-- ITS FALSE NEIGHBOUR: 'it returns false'. Refute it at one input. -/
def fnEntryInfoBuildersCommuteWrong : ChangeSpec := { name := "fnEntryInfoBuildersCommute", vars := ["example.com/bravais/bravais/document.jsonapi"], fn := fun _ => fun
  | [d1, d2, d3, d4, d5, g1] => { results := [.lit (.bool false)], args := [d1, d2, d3, d4, d5], vars := [g1] }
  | _ => none }
def FnEntryInfoBuildersCommuteWrongFalsely : Prop := fnEntryInfoBuildersCommuteRow.holds Tryd.pinned (OpenSpec.ofChange fnEntryInfoBuildersCommuteWrong)

/-- 'zzlaws_document_b1.FnWithLinksLastWins': WHATEVER THE INPUT: true; the input reads as it did. -/
def fnWithLinksLastWinsSpec : ChangeSpec := { name := "fnWithLinksLastWins", vars := ["example.com/bravais/bravais/document.jsonapi"], fn := fun _ => fun
  | [d1, d2, d3, d4, d5, d6, d7, g1] => { results := [.lit (.bool true)], args := [d1, d2, d3, d4, d5, d6, d7], vars := [g1] }
  | _ => none }
def fnWithLinksLastWinsRow : OpenClaim := { program := "qxb6608758adoor", sum := "24953261bde1a007f2c487f83f7da12f1370213665462654192394a9a279bdda", func := "example.com/bravais/bravais/zzlaws_document_b1.FnWithLinksLastWins", spec := "fnWithLinksLastWins", named := ["example.com/bravais/bravais/document.jsonapi"], apart := false, laid := [("example.com/bravais/bravais/document.jsonapi", laid_example_com_bravais_bravais_document_jsonapi)] }
def FnWithLinksLastWinsSaid : Prop := fnWithLinksLastWinsRow.holds Tryd.pinned (OpenSpec.ofChange fnWithLinksLastWinsSpec)

/-- ITS FALSE NEIGHBOUR: 'it returns false'. Refute it at one input. -/
def fnWithLinksLastWinsWrong : ChangeSpec := { name := "fnWithLinksLastWins", vars := ["example.com/bravais/bravais/document.jsonapi"], fn := fun _ => fun
  | [d1, d2, d3, d4, d5, d6, d7, g1] => { results := [.lit (.bool false)], args := [d1, d2, d3, d4, d5, d6, d7], vars := [g1] }
  | _ => none }
def FnWithLinksLastWinsWrongFalsely : Prop := fnWithLinksLastWinsRow.holds Tryd.pinned (OpenSpec.ofChange fnWithLinksLastWinsWrong)

/-- 'zzlaws_document_b1.FnWithIncludedLastWins': WHATEVER THE INPUT: true; the input reads as it did. -/
def fnWithIncludedLastWinsSpec : ChangeSpec := { name := "fnWithIncludedLastWins", vars := ["example.com/bravais/bravais/document.jsonapi"], fn := fun _ => fun
  | [d1, d2, d3, d4, d5, g1] => { results := [.lit (.bool true)], args := [d1, d2, d3, d4, d5], vars := [g1] }
  | _ => none }
def fnWithIncludedLastWinsRow : OpenClaim := { program := "qxb6608758adoor", sum := "24953261bde1a007f2c487f83f7da12f1370213665462654192394a9a279bdda", func := "example.com/bravais/bravais/zzlaws_document_b1.FnWithIncludedLastWins", spec := "fnWithIncludedLastWins", named := ["example.com/bravais/bravais/document.jsonapi"], apart := false, laid := [("example.com/bravais/bravais/document.jsonapi", laid_example_com_bravais_bravais_document_jsonapi)] }
def FnWithIncludedLastWinsSaid : Prop := fnWithIncludedLastWinsRow.holds Tryd.pinned (OpenSpec.ofChange fnWithIncludedLastWinsSpec)

/-- ITS FALSE NEIGHBOUR: 'it returns false'. Refute it at one input. -/
def fnWithIncludedLastWinsWrong : ChangeSpec := { name := "fnWithIncludedLastWins", vars := ["example.com/bravais/bravais/document.jsonapi"], fn := fun _ => fun
  | [d1, d2, d3, d4, d5, g1] => { results := [.lit (.bool false)], args := [d1, d2, d3, d4, d5], vars := [g1] }
  | _ => none }
def FnWithIncludedLastWinsWrongFalsely : Prop := fnWithIncludedLastWinsRow.holds Tryd.pinned (OpenSpec.ofChange fnWithIncludedLastWinsWrong)

end Rows
end Go.Proofs.Qxb6608758aDoor
