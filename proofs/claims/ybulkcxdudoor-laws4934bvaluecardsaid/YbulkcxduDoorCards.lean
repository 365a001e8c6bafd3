/-
  DERIVED. GIVEN WITH THE SEED: THE CARDS: each row of YbulkcxduDoorRows.lean that lists a variable, with what it lists TIED to the program's text (the seventh form; the later family's looks); each row that meets fmt, with fmt's text TOLD by the authors' own Lean function (tested against real Go, not proved from fmt's source: count such statements apart). THE CARD IS WHAT COUNTS. Prove the row's statement (the work); the ties are given (YbulkcxduDoorTie.lean); close each card by the builder's one call (the guide's Derived/Test/ToyasCard.lean, 'card_holds'). Laid BY PROGRAM, IN A SANDBOX (cutbox-door.mjs). By AI agents, Wed Nov 11 2026. No macro, syntax, notation, axiom, sorry.
-/
import Derived.Test.YbulkcxduDoorRows
import GoSem.ClaimSeven
namespace Go.Proofs.YbulkcxduDoor
namespace Rows

/-- THE TIED CARD OF 'mtree.LawS4934BValue'. -/
def lawS4934BValueCard : Claim7 := { stood := { row := lawS4934BValueRow, standIns := [], harness := (true, "82566576dc57a58215c56797f0c2e9c22f34fc9f8008c44ce0149a89fef56c07"), looks := false }, kinds := [], alts := [], laidByText := true, laidKinds := [.data, .data, .data], laidTests := true, laidLooks := .later }
def LawS4934BValueCardSaid : Prop := Claim7.holds Ybad.pinned (.plain (OpenSpec.ofChange lawS4934BValueSpec)) lawS4934BValueCard

/-- THE TIED CARD OF 'mtree.LawS4934BParse'. -/
def lawS4934BParseCard : Claim7 := { stood := { row := lawS4934BParseRow, standIns := [], harness := (true, "82566576dc57a58215c56797f0c2e9c22f34fc9f8008c44ce0149a89fef56c07"), looks := false }, kinds := [], alts := [], laidByText := true, laidKinds := [.data, .data, .data], laidTests := true, laidLooks := .later }
def LawS4934BParseCardSaid : Prop := Claim7.holds Ybad.pinned (.plain (OpenSpec.ofChange lawS4934BParseSpec)) lawS4934BParseCard

/-- THE TIED CARD OF 'mtree.LawS4934BCopy'. -/
def lawS4934BCopyCard : Claim7 := { stood := { row := lawS4934BCopyRow, standIns := [], harness := (true, "82566576dc57a58215c56797f0c2e9c22f34fc9f8008c44ce0149a89fef56c07"), looks := false }, kinds := [], alts := [], laidByText := true, laidKinds := [.data, .data, .data], laidTests := true, laidLooks := .later }
def LawS4934BCopyCardSaid : Prop := Claim7.holds Ybad.pinned (.plain (OpenSpec.ofChange lawS4934BCopySpec)) lawS4934BCopyCard
end Rows
end Go.Proofs.YbulkcxduDoor
