/-
  No cell of these rows narrows 'for every input' (looked for: loops, veiled, ifaces, maps, wideKeys, modest, calm, conditions, laid).
  DERIVED. THE GIVEN ROWS OF THIS SEAT. 1 by the template 'for every input the law returns true; each argument reads behind the call as it read before'; 0 by the template 'total and deterministic' (their statements: YbulkcxcsFmtTotals.lean).
  GIVEN WITH THE SEED: the statements are not yours to turn. If you find one false, say at which input.
  Laid BY PROGRAM, IN A SANDBOX (cutbox-rows.mjs): the forced cells as the released guide's own fill.sh prints them over the translation 77d69c6e8013e4c9… (all of the seat's roots in one cut). By AI agents, Wed Nov 11 2026. No macro, syntax, notation, axiom, sorry.
-/
import Derived.Test.YbulkcxcsFmtChecked
import GoSem.Claim
import GoSem.ClaimJoined
import GoSem.ClaimMapViews
import Derived.JoinedTies
import Derived.KernelRfl
namespace Go.Proofs.YbulkcxcsFmt
/- THE CELL 'sum', in the pinned program and in every row, IS THE sha256 OF THE DUMP (.gsa) THAT YbulkcxcsFmtProg.lean LOADS. Nothing in Lean hashes anything: it is a label: what it is worth is what the hold of that sum in a sandbox is worth. -/
noncomputable def Ybaf.pinned : Pinned := { name := "ybulkcxcsfmt", sum := "77d69c6e8013e4c98140a432e432c8f4c48509dbc180999a34f1b8a99aef3e2b", checked := Ybaf.checked }
namespace Rows
def none {H : Type} : Left H := { results := [], args := [] }

/-- 'jsonlogic.LawS4932CFlatten': WHATEVER THE INPUT: true; the input reads as it did. -/
def lawS4932CFlattenSpec : ChangeSpec := { name := "lawS4932CFlatten", fn := fun _ => fun
  | [d1, d2] => { results := [.lit (.bool true)], args := [d1, d2] }
  | _ => none }
def lawS4932CFlattenRow : OpenClaim := { program := "ybulkcxcsfmt", sum := "77d69c6e8013e4c98140a432e432c8f4c48509dbc180999a34f1b8a99aef3e2b", func := "example.com/whenthen/whenthen/jsonlogic.LawS4932CFlatten", spec := "lawS4932CFlatten", stops := ["fmt.Sprintf"], inPlace := ["fmt.Sprintf"], apart := false }
/-- NO THEOREM (fmt's text is open here; it may be false): for the released tool's asking of the row's closed facts alone. THE STATEMENT IS 'LawS4932CFlattenToldSaid' (YbulkcxcsFmtCards.lean). -/
def LawS4932CFlattenFormAsk : Prop := lawS4932CFlattenRow.holds Ybaf.pinned (OpenSpec.ofChange lawS4932CFlattenSpec)

/-- ITS FALSE NEIGHBOUR: 'it returns false'. Refute it at one input. -/
def lawS4932CFlattenWrong : ChangeSpec := { name := "lawS4932CFlatten", fn := fun _ => fun
  | [d1, d2] => { results := [.lit (.bool false)], args := [d1, d2] }
  | _ => none }
def LawS4932CFlattenWrongFormAsk : Prop := lawS4932CFlattenRow.holds Ybaf.pinned (OpenSpec.ofChange lawS4932CFlattenWrong)

end Rows
end Go.Proofs.YbulkcxcsFmt
