/-
  No cell of these rows narrows 'for every input' (looked for: loops, veiled, ifaces, maps, wideKeys, modest, calm, conditions, laid).
  DERIVED. THE GIVEN ROWS OF THIS SEAT. 2 by the template 'for every input the law returns true; each argument reads behind the call as it read before'; 0 by the template 'total and deterministic' (their statements: Qxb6604511aFmtTotals.lean).
  GIVEN WITH THE SEED: the statements are not yours to turn. If you find one false, say at which input.
  Laid BY PROGRAM, IN A SANDBOX (cutbox-rows.mjs): the forced cells as the released guide's own fill.sh prints them over the translation fd25f0eed64d8d5e… (all of the seat's roots in one cut). By AI agents, Wed Nov 11 2026. No macro, syntax, notation, axiom, sorry.
-/
import Derived.Test.Qxb6604511aFmtChecked
import GoSem.Claim
import GoSem.ClaimJoined
import GoSem.ClaimMapViews
import Derived.JoinedTies
import Derived.KernelRfl
namespace Go.Proofs.Qxb6604511aFmt
/- THE CELL 'sum', in the pinned program and in every row, IS THE sha256 OF THE DUMP (.gsa) THAT Qxb6604511aFmtProg.lean LOADS. Nothing in Lean hashes anything: it is a label: what it is worth is what the hold of that sum in a sandbox is worth. -/
noncomputable def Tryf.pinned : Pinned := { name := "qxb6604511afmt", sum := "fd25f0eed64d8d5e025ce8213423d6cb4d3d0c11fa2bc2134e545b1c23e9f8d3", checked := Tryf.checked }
namespace Rows
def none {H : Type} : Left H := { results := [], args := [] }

/-- 'zzlaws_root_b1.FnAddRecordsShortened': WHATEVER THE INPUT: true; the input reads as it did. -/
def fnAddRecordsShortenedSpec : ChangeSpec := { name := "fnAddRecordsShortened", fn := fun _ => fun
  | [d1, d2] => { results := [.lit (.bool true)], args := [d1, d2] }
  | _ => none }
def fnAddRecordsShortenedRow : OpenClaim := { program := "qxb6604511afmt", sum := "fd25f0eed64d8d5e025ce8213423d6cb4d3d0c11fa2bc2134e545b1c23e9f8d3", func := "example.com/profilum/profilum/zzlaws_root_b1.FnAddRecordsShortened", spec := "fnAddRecordsShortened", stops := ["fmt.Sprintf"], inPlace := ["fmt.Sprintf"], apart := false }
/-- NO THEOREM (fmt's text is open here; it may be false): for the released tool's asking of the row's closed facts alone. THE STATEMENT IS 'FnAddRecordsShortenedToldSaid' (Qxb6604511aFmtCards.lean). -/
def FnAddRecordsShortenedFormAsk : Prop := fnAddRecordsShortenedRow.holds Tryf.pinned (OpenSpec.ofChange fnAddRecordsShortenedSpec)

/-- ITS FALSE NEIGHBOUR: 'it returns false'. Refute it at one input. -/
def fnAddRecordsShortenedWrong : ChangeSpec := { name := "fnAddRecordsShortened", fn := fun _ => fun
  | [d1, d2] => { results := [.lit (.bool false)], args := [d1, d2] }
  | _ => none }
def FnAddRecordsShortenedWrongFormAsk : Prop := fnAddRecordsShortenedRow.holds Tryf.pinned (OpenSpec.ofChange fnAddRecordsShortenedWrong)

/-- 'zzlaws_root_b1.FnAddThenResultScript': WHATEVER THE INPUT: true; the input reads as it did. -/
def fnAddThenResultScriptSpec : ChangeSpec := { name := "fnAddThenResultScript", fn := fun _ => fun
  | [d1, d2, d3] => { results := [.lit (.bool true)], args := [d1, d2, d3] }
  | _ => none }
def fnAddThenResultScriptRow : OpenClaim := { program := "qxb6604511afmt", sum := "fd25f0eed64d8d5e025ce8213423d6cb4d3d0c11fa2bc2134e545b1c23e9f8d3", func := "example.com/profilum/profilum/zzlaws_root_b1.FnAddThenResultScript", spec := "fnAddThenResultScript", stops := ["fmt.Sprintf"], inPlace := ["fmt.Sprintf", "internal/abi.NoEscape", "internal/bytealg.MakeNoZero"], apart := false }
/-- NO THEOREM (fmt's text is open here; it may be false): for the released tool's asking of the row's closed facts alone. THE STATEMENT IS 'FnAddThenResultScriptToldSaid' (Qxb6604511aFmtCards.lean). -/
def FnAddThenResultScriptFormAsk : Prop := fnAddThenResultScriptRow.holds Tryf.pinned (OpenSpec.ofChange fnAddThenResultScriptSpec)

/-- ITS FALSE NEIGHBOUR: 'it returns false'. Refute it at one input. -/
def fnAddThenResultScriptWrong : ChangeSpec := { name := "fnAddThenResultScript", fn := fun _ => fun
  | [d1, d2, d3] => { results := [.lit (.bool false)], args := [d1, d2, d3] }
  | _ => none }
def FnAddThenResultScriptWrongFormAsk : Prop := fnAddThenResultScriptRow.holds Tryf.pinned (OpenSpec.ofChange fnAddThenResultScriptWrong)

end Rows
end Go.Proofs.Qxb6604511aFmt
