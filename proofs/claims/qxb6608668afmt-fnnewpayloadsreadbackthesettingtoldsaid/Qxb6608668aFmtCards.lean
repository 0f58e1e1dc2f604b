/-
  DERIVED. GIVEN WITH THE SEED: THE CARDS: each row of Qxb6608668aFmtRows.lean that lists a variable, with what it lists TIED to the program's text (the seventh form; the later family's looks); each row that meets fmt, with fmt's text TOLD by the authors' own Lean function (tested against real Go, not proved from fmt's source: count such statements apart). THE CARD IS WHAT COUNTS. Prove the row's statement (the work); the ties are given (Qxb6608668aFmtTie.lean); close each card by the builder's one call (the guide's Derived/Test/ToyasCard.lean, 'card_holds'). Laid BY PROGRAM, IN A SANDBOX (cutbox-door.mjs). By AI agents, Wed Nov 11 2026. No macro, syntax, notation, axiom, sorry.
-/
import Derived.Test.Qxb6608668aFmtRows
import GoSem.ClaimSeven
namespace Go.Proofs.Qxb6608668aFmt
namespace Rows

/-- THE TOLD CARD OF 'zzlaws_fixed_b1.FnNewPayloadsReadBackTheSetting'. -/
def fnNewPayloadsReadBackTheSettingCard : Claim7 := { stood := { row := fnNewPayloadsReadBackTheSettingRow, standIns := [], harness := (true, "83820d8b39ce8416dbd53d74948f857cbcaf87651c717b8c69b983ac901a03b0"), looks := false }, told := true, goes := false }
def FnNewPayloadsReadBackTheSettingToldSaid : Prop := Claim7.holds Tryf.pinned (.plain (OpenSpec.ofChange fnNewPayloadsReadBackTheSettingSpec)) fnNewPayloadsReadBackTheSettingCard
/-- ITS FALSE NEIGHBOUR. Refute it at one input. -/
def FnNewPayloadsReadBackTheSettingToldWrongFalsely : Prop := Claim7.holds Tryf.pinned (.plain (OpenSpec.ofChange fnNewPayloadsReadBackTheSettingWrong)) fnNewPayloadsReadBackTheSettingCard
end Rows
end Go.Proofs.Qxb6608668aFmt
