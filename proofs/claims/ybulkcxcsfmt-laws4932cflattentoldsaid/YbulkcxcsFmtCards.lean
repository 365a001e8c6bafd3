/-
  DERIVED. GIVEN WITH THE SEED: THE CARDS: each row of YbulkcxcsFmtRows.lean that lists a variable, with what it lists TIED to the program's text (the seventh form; the later family's looks); each row that meets fmt, with fmt's text TOLD by the authors' own Lean function (tested against real Go, not proved from fmt's source: count such statements apart). THE CARD IS WHAT COUNTS. Prove the row's statement (the work); the ties are given (YbulkcxcsFmtTie.lean); close each card by the builder's one call (the guide's Derived/Test/ToyasCard.lean, 'card_holds'). Laid BY PROGRAM, IN A SANDBOX (cutbox-door.mjs). By AI agents, Wed Nov 11 2026. No macro, syntax, notation, axiom, sorry.
-/
import Derived.Test.YbulkcxcsFmtRows
import GoSem.ClaimSeven
namespace Go.Proofs.YbulkcxcsFmt
namespace Rows

/-- THE TOLD CARD OF 'jsonlogic.LawS4932CFlatten'. -/
def lawS4932CFlattenCard : Claim7 := { stood := { row := lawS4932CFlattenRow, standIns := [], harness := (true, "3454d425b17024bb906c02608753b705679bc78416c50b2cc8483a8b5121dd8b"), looks := true }, told := true, goes := false }
def LawS4932CFlattenToldSaid : Prop := Claim7.holds Ybaf.pinned (.plain (OpenSpec.ofChange lawS4932CFlattenSpec)) lawS4932CFlattenCard
/-- ITS FALSE NEIGHBOUR. Refute it at one input. -/
def LawS4932CFlattenToldWrongFalsely : Prop := Claim7.holds Ybaf.pinned (.plain (OpenSpec.ofChange lawS4932CFlattenWrong)) lawS4932CFlattenCard
end Rows
end Go.Proofs.YbulkcxcsFmt
