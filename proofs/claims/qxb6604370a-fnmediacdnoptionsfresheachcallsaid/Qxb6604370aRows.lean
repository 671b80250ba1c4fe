/-
  No cell of these rows narrows 'for every input' (looked for: loops, veiled, ifaces, maps, wideKeys, modest, calm, conditions, laid).
  DERIVED. THE GIVEN ROWS OF THIS SEAT. 1 by the template 'for every input the law returns true; each argument reads behind the call as it read before'; 0 by the template 'total and deterministic' (their statements: Qxb6604370aTotals.lean).
  GIVEN WITH THE SEED: the statements are not yours to turn. If you find one false, say at which input.
  Laid BY PROGRAM, IN A SANDBOX (cutbox-rows.mjs): the forced cells as the released guide's own fill.sh prints them over the translation 24f6955ff625b6b4… (all of the seat's roots in one cut). By AI agents, Wed Nov 11 2026. No macro, syntax, notation, axiom, sorry.
-/
import Derived.Test.Qxb6604370aChecked
import GoSem.Claim
import GoSem.ClaimJoined
import GoSem.ClaimMapViews
import Derived.JoinedTies
import Derived.KernelRfl
namespace Go.Proofs.Qxb6604370a
/- THE CELL 'sum', in the pinned program and in every row, IS THE sha256 OF THE DUMP (.gsa) THAT Qxb6604370aProg.lean LOADS. Nothing in Lean hashes anything: it is a label: what it is worth is what the hold of that sum in a sandbox is worth. -/
noncomputable def Try.pinned : Pinned := { name := "qxb6604370a", sum := "24f6955ff625b6b4b40f6e74c8ca5e7b98a9314bf05f36b628f901d469e03c28", checked := Try.checked }
namespace Rows
def none {H : Type} : Left H := { results := [], args := [] }

/-- 'zzlaws_rules_b1.FnMediacdnOptionsFreshEachCall': WHATEVER THE INPUT: true; the input reads as it did. -/
def fnMediacdnOptionsFreshEachCallSpec : ChangeSpec := { name := "fnMediacdnOptionsFreshEachCall", fn := fun _ => fun
  | [] => { results := [.lit (.bool true)], args := [] }
  | _ => none }
def fnMediacdnOptionsFreshEachCallRow : OpenClaim := { program := "qxb6604370a", sum := "24f6955ff625b6b4b40f6e74c8ca5e7b98a9314bf05f36b628f901d469e03c28", func := "example.com/brief-links/brief-links/zzlaws_rules_b1.FnMediacdnOptionsFreshEachCall", spec := "fnMediacdnOptionsFreshEachCall", apart := false }
def FnMediacdnOptionsFreshEachCallSaid : Prop := fnMediacdnOptionsFreshEachCallRow.holds Try.pinned (OpenSpec.ofChange fnMediacdnOptionsFreshEachCallSpec)

/-- ITS FALSE NEIGHBOUR: 'it returns false'. Refute it at one input. -/
def fnMediacdnOptionsFreshEachCallWrong : ChangeSpec := { name := "fnMediacdnOptionsFreshEachCall", fn := fun _ => fun
  | [] => { results := [.lit (.bool false)], args := [] }
  | _ => none }
def FnMediacdnOptionsFreshEachCallWrongFalsely : Prop := fnMediacdnOptionsFreshEachCallRow.holds Try.pinned (OpenSpec.ofChange fnMediacdnOptionsFreshEachCallWrong)

end Rows
end Go.Proofs.Qxb6604370a
