/-
  No cell of these rows narrows 'for every input' (looked for: loops, veiled, ifaces, maps, wideKeys, modest, calm, conditions, laid).
  DERIVED. THE GIVEN ROWS OF THIS SEAT. 1 by the template 'for every input the law returns true; each argument reads behind the call as it read before'; 0 by the template 'total and deterministic' (their statements: Qxb6604478aFmtTotals.lean).
  GIVEN WITH THE SEED: the statements are not yours to turn. If you find one false, say at which input.
  Laid BY PROGRAM, IN A SANDBOX (cutbox-rows.mjs): the forced cells as the released guide's own fill.sh prints them over the translation 7e5579753914a1aa… (all of the seat's roots in one cut). By AI agents, Wed Nov 11 2026. No macro, syntax, notation, axiom, sorry.
-/
import Derived.Test.Qxb6604478aFmtChecked
import GoSem.Claim
import GoSem.ClaimJoined
import GoSem.ClaimMapViews
import Derived.JoinedTies
import Derived.KernelRfl
namespace Go.Proofs.Qxb6604478aFmt
/- THE CELL 'sum', in the pinned program and in every row, IS THE sha256 OF THE DUMP (.gsa) THAT Qxb6604478aFmtProg.lean LOADS. Nothing in Lean hashes anything: it is a label: what it is worth is what the hold of that sum in a sandbox is worth. -/
noncomputable def Tryf.pinned : Pinned := { name := "qxb6604478afmt", sum := "7e5579753914a1aa1177f094f38b1fa1f95b99cfa45c7ef8a15165677c507e41", checked := Tryf.checked }
namespace Rows
def none {H : Type} : Left H := { results := [], args := [] }

/-- 'zzlaws_internal_macaroon_b1.FnParseAcceptsExactlyCanonical': WHATEVER THE INPUT: true; the input reads as it did. -/
def fnParseAcceptsExactlyCanonicalSpec : ChangeSpec := { name := "fnParseAcceptsExactlyCanonical", fn := fun _ => fun
  | [d] => { results := [.lit (.bool true)], args := [d] }
  | _ => none }
def fnParseAcceptsExactlyCanonicalRow : OpenClaim := { program := "qxb6604478afmt", sum := "7e5579753914a1aa1177f094f38b1fa1f95b99cfa45c7ef8a15165677c507e41", func := "example.com/satstile/satstile/zzlaws_internal_macaroon_b1.FnParseAcceptsExactlyCanonical", spec := "fnParseAcceptsExactlyCanonical", stops := ["fmt.errorf"], inPlace := ["fmt.errorf"], apart := false }
/-- NO THEOREM (fmt's text is open here; it may be false): for the released tool's asking of the row's closed facts alone. THE STATEMENT IS 'FnParseAcceptsExactlyCanonicalToldSaid' (Qxb6604478aFmtCards.lean). -/
def FnParseAcceptsExactlyCanonicalFormAsk : Prop := fnParseAcceptsExactlyCanonicalRow.holds Tryf.pinned (OpenSpec.ofChange fnParseAcceptsExactlyCanonicalSpec)

/-- ITS FALSE NEIGHBOUR: 'it returns false'. Refute it at one input. -/
def fnParseAcceptsExactlyCanonicalWrong : ChangeSpec := { name := "fnParseAcceptsExactlyCanonical", fn := fun _ => fun
  | [d] => { results := [.lit (.bool false)], args := [d] }
  | _ => none }
def FnParseAcceptsExactlyCanonicalWrongFormAsk : Prop := fnParseAcceptsExactlyCanonicalRow.holds Tryf.pinned (OpenSpec.ofChange fnParseAcceptsExactlyCanonicalWrong)

end Rows
end Go.Proofs.Qxb6604478aFmt
