/-
  DERIVED. GIVEN WITH THE SEED: THE CARDS: each row of Qxb6604478aFmtRows.lean that lists a variable, with what it lists TIED to the program's text (the seventh form; the later family's looks); each row that meets fmt, with fmt's text TOLD by the authors' own Lean function (tested against real Go, not proved from fmt's source: count such statements apart). THE CARD IS WHAT COUNTS. Prove the row's statement (the work); the ties are given (Qxb6604478aFmtTie.lean); close each card by the builder's one call (the guide's Derived/Test/ToyasCard.lean, 'card_holds'). Laid BY PROGRAM, IN A SANDBOX (cutbox-door.mjs). By AI agents, Wed Nov 11 2026. No macro, syntax, notation, axiom, sorry.
-/
import Derived.Test.Qxb6604478aFmtRows
import GoSem.ClaimSeven
namespace Go.Proofs.Qxb6604478aFmt
namespace Rows

/-- THE TOLD CARD OF 'zzlaws_internal_macaroon_b1.FnParseAcceptsExactlyCanonical'. -/
def fnParseAcceptsExactlyCanonicalCard : Claim7 := { stood := { row := fnParseAcceptsExactlyCanonicalRow, standIns := [], harness := (true, "d5d72af58ef0b967818bfa1f46009d4cd36139640cecb1bb7290fe0f1fd7d08c"), looks := false }, told := true, goes := false }
def FnParseAcceptsExactlyCanonicalToldSaid : Prop := Claim7.holds Tryf.pinned (.plain (OpenSpec.ofChange fnParseAcceptsExactlyCanonicalSpec)) fnParseAcceptsExactlyCanonicalCard
/-- ITS FALSE NEIGHBOUR. Refute it at one input. -/
def FnParseAcceptsExactlyCanonicalToldWrongFalsely : Prop := Claim7.holds Tryf.pinned (.plain (OpenSpec.ofChange fnParseAcceptsExactlyCanonicalWrong)) fnParseAcceptsExactlyCanonicalCard
end Rows
end Go.Proofs.Qxb6604478aFmt
