/-
  No cell of these rows narrows 'for every input' (looked for: loops, veiled, ifaces, maps, wideKeys, modest, calm, conditions, laid).
  DERIVED. THE GIVEN ROWS OF THIS SEAT. 1 by the template 'for every input the law returns true; each argument reads behind the call as it read before'; 0 by the template 'total and deterministic' (their statements: Qxb6608668aFmtTotals.lean).
  GIVEN WITH THE SEED: the statements are not yours to turn. If you find one false, say at which input.
  Laid BY PROGRAM, IN A SANDBOX (cutbox-rows.mjs): the forced cells as the released guide's own fill.sh prints them over the translation f01bb0b7dbeb17cd… (all of the seat's roots in one cut). By AI agents, Wed Nov 11 2026. No macro, syntax, notation, axiom, sorry.
-/
import Derived.Test.Qxb6608668aFmtChecked
import GoSem.Claim
import GoSem.ClaimJoined
import GoSem.ClaimMapViews
import Derived.JoinedTies
import Derived.KernelRfl
namespace Go.Proofs.Qxb6608668aFmt
/- THE CELL 'sum', in the pinned program and in every row, IS THE sha256 OF THE DUMP (.gsa) THAT Qxb6608668aFmtProg.lean LOADS. Nothing in Lean hashes anything: it is a label: what it is worth is what the hold of that sum in a sandbox is worth. -/
noncomputable def Tryf.pinned : Pinned := { name := "qxb6608668afmt", sum := "f01bb0b7dbeb17cd89c293bb9e9c02a2a9bb6c2f6fa6cd028c96c00db1676eff", checked := Tryf.checked }
namespace Rows
def none {H : Type} : Left H := { results := [], args := [] }

/-- 'zzlaws_fixed_b1.FnNewPayloadsReadBackTheSetting': WHATEVER THE INPUT: true; the input reads as it did. -/
def fnNewPayloadsReadBackTheSettingSpec : ChangeSpec := { name := "fnNewPayloadsReadBackTheSetting", fn := fun _ => fun
  | [d1, d2] => { results := [.lit (.bool true)], args := [d1, d2] }
  | _ => none }
def fnNewPayloadsReadBackTheSettingRow : OpenClaim := { program := "qxb6608668afmt", sum := "f01bb0b7dbeb17cd89c293bb9e9c02a2a9bb6c2f6fa6cd028c96c00db1676eff", func := "example.com/hearken/hearken/zzlaws_fixed_b1.FnNewPayloadsReadBackTheSetting", spec := "fnNewPayloadsReadBackTheSetting", stops := ["fmt.errorf"], inPlace := ["fmt.errorf"], named := ["encoding/binary.BigEndian"], apart := false }
/-- NO THEOREM (fmt's text is open here; it may be false): for the released tool's asking of the row's closed facts alone. THE STATEMENT IS 'FnNewPayloadsReadBackTheSettingToldSaid' (Qxb6608668aFmtCards.lean). -/
def FnNewPayloadsReadBackTheSettingFormAsk : Prop := fnNewPayloadsReadBackTheSettingRow.holds Tryf.pinned (OpenSpec.ofChange fnNewPayloadsReadBackTheSettingSpec)

/-- ITS FALSE NEIGHBOUR: 'it returns false'. Refute it at one input. -/
def fnNewPayloadsReadBackTheSettingWrong : ChangeSpec := { name := "fnNewPayloadsReadBackTheSetting", fn := fun _ => fun
  | [d1, d2] => { results := [.lit (.bool false)], args := [d1, d2] }
  | _ => none }
def FnNewPayloadsReadBackTheSettingWrongFormAsk : Prop := fnNewPayloadsReadBackTheSettingRow.holds Tryf.pinned (OpenSpec.ofChange fnNewPayloadsReadBackTheSettingWrong)

end Rows
end Go.Proofs.Qxb6608668aFmt
