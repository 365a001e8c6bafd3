/-
  No cell of these rows narrows 'for every input' (looked for: loops, veiled, ifaces, maps, wideKeys, modest, calm, conditions, laid).
  DERIVED. THE GIVEN ROWS OF THIS SEAT. 1 by the template 'for every input the law returns true; each argument reads behind the call as it read before'; 0 by the template 'total and deterministic' (their statements: YbulkcxduTotals.lean).
  GIVEN WITH THE SEED: the statements are not yours to turn. If you find one false, say at which input.
  Laid BY PROGRAM, IN A SANDBOX (cutbox-rows.mjs): the forced cells as the released guide's own fill.sh prints them over the translation 3bda9402a928b051… (all of the seat's roots in one cut). By AI agents, Wed Nov 11 2026. No macro, syntax, notation, axiom, sorry.
-/
import Derived.Test.YbulkcxduChecked
import GoSem.Claim
import GoSem.ClaimJoined
import GoSem.ClaimMapViews
import Derived.JoinedTies
import Derived.KernelRfl
namespace Go.Proofs.Ybulkcxdu
/- THE CELL 'sum', in the pinned program and in every row, IS THE sha256 OF THE DUMP (.gsa) THAT YbulkcxduProg.lean LOADS. Nothing in Lean hashes anything: it is a label: what it is worth is what the hold of that sum in a sandbox is worth. -/
noncomputable def Yba.pinned : Pinned := { name := "ybulkcxdu", sum := "3bda9402a928b051b00c6e0e20392f41fdcaebc1e8460bb92acf9544211ab935", checked := Yba.checked }
namespace Rows
def none {H : Type} : Left H := { results := [], args := [] }

/-- 'mtree.LawS4934CFresh': WHATEVER THE INPUT: true; the input reads as it did. -/
def lawS4934CFreshSpec : ChangeSpec := { name := "lawS4934CFresh", fn := fun _ => fun
  | [d1, d2] => { results := [.lit (.bool true)], args := [d1, d2] }
  | _ => none }
def lawS4934CFreshRow : OpenClaim := { program := "ybulkcxdu", sum := "3bda9402a928b051b00c6e0e20392f41fdcaebc1e8460bb92acf9544211ab935", func := "example.com/tallytree/tallytree/pkg/mtree.LawS4934CFresh", spec := "lawS4934CFresh", apart := false }
def LawS4934CFreshSaid : Prop := lawS4934CFreshRow.holds Yba.pinned (OpenSpec.ofChange lawS4934CFreshSpec)

/-- ITS FALSE NEIGHBOUR: 'it returns false'. Refute it at one input. -/
def lawS4934CFreshWrong : ChangeSpec := { name := "lawS4934CFresh", fn := fun _ => fun
  | [d1, d2] => { results := [.lit (.bool false)], args := [d1, d2] }
  | _ => none }
def LawS4934CFreshWrongFalsely : Prop := lawS4934CFreshRow.holds Yba.pinned (OpenSpec.ofChange lawS4934CFreshWrong)

end Rows
end Go.Proofs.Ybulkcxdu
