/-
  DERIVED. GIVEN WITH THE SEED: THE CARDS: each row of Qxb6604511aFmtRows.lean that lists a variable, with what it lists TIED to the program's text (the seventh form; the later family's looks); each row that meets fmt, with fmt's text TOLD by the authors' own Lean function (tested against real Go, not proved from fmt's source: count such statements apart). THE CARD IS WHAT COUNTS. Prove the row's statement (the work); the ties are given (Qxb6604511aFmtTie.lean); close each card by the builder's one call (the guide's Derived/Test/ToyasCard.lean, 'card_holds'). Laid BY PROGRAM, IN A SANDBOX (cutbox-door.mjs). By AI agents, Wed Nov 11 2026. No macro, syntax, notation, axiom, sorry.
-/
import Derived.Test.Qxb6604511aFmtRows
import GoSem.ClaimSeven
namespace Go.Proofs.Qxb6604511aFmt
namespace Rows

/-- THE TOLD CARD OF 'zzlaws_root_b1.FnAddRecordsShortened'. -/
def fnAddRecordsShortenedCard : Claim7 := { stood := { row := fnAddRecordsShortenedRow, standIns := [], harness := (true, "8eac5b1a861eb6f0aabf3afaf7f6f5b142543bf5c26e4351316da3ee826af53f"), looks := false }, told := true, goes := false }
def FnAddRecordsShortenedToldSaid : Prop := Claim7.holds Tryf.pinned (.plain (OpenSpec.ofChange fnAddRecordsShortenedSpec)) fnAddRecordsShortenedCard
/-- ITS FALSE NEIGHBOUR. Refute it at one input. -/
def FnAddRecordsShortenedToldWrongFalsely : Prop := Claim7.holds Tryf.pinned (.plain (OpenSpec.ofChange fnAddRecordsShortenedWrong)) fnAddRecordsShortenedCard

/-- THE TOLD CARD OF 'zzlaws_root_b1.FnAddThenResultScript'. -/
def fnAddThenResultScriptCard : Claim7 := { stood := { row := fnAddThenResultScriptRow, standIns := [], harness := (true, "8eac5b1a861eb6f0aabf3afaf7f6f5b142543bf5c26e4351316da3ee826af53f"), looks := false }, told := true, goes := false }
def FnAddThenResultScriptToldSaid : Prop := Claim7.holds Tryf.pinned (.plain (OpenSpec.ofChange fnAddThenResultScriptSpec)) fnAddThenResultScriptCard
/-- ITS FALSE NEIGHBOUR. Refute it at one input. -/
def FnAddThenResultScriptToldWrongFalsely : Prop := Claim7.holds Tryf.pinned (.plain (OpenSpec.ofChange fnAddThenResultScriptWrong)) fnAddThenResultScriptCard
end Rows
end Go.Proofs.Qxb6604511aFmt
