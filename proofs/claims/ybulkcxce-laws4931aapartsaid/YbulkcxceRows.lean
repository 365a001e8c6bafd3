/-
  No cell of these rows narrows 'for every input' (looked for: loops, veiled, ifaces, maps, wideKeys, modest, calm, conditions, laid).
  DERIVED. THE GIVEN ROWS OF THIS SEAT. 4 by the template 'for every input the law returns true; each argument reads behind the call as it read before'; 0 by the template 'total and deterministic' (their statements: YbulkcxceTotals.lean).
  GIVEN WITH THE SEED: the statements are not yours to turn. If you find one false, say at which input.
  Laid BY PROGRAM, IN A SANDBOX (cutbox-rows.mjs): the forced cells as the released guide's own fill.sh prints them over the translation 2d92e4c94c5827b0… (all of the seat's roots in one cut). By AI agents, Wed Nov 11 2026. No macro, syntax, notation, axiom, sorry.
-/
import Derived.Test.YbulkcxceChecked
import GoSem.Claim
import GoSem.ClaimJoined
import GoSem.ClaimMapViews
import Derived.JoinedTies
import Derived.KernelRfl
namespace Go.Proofs.Ybulkcxce
/- THE CELL 'sum', in the pinned program and in every row, IS THE sha256 OF THE DUMP (.gsa) THAT YbulkcxceProg.lean LOADS. Nothing in Lean hashes anything: it is a label: what it is worth is what the hold of that sum in a sandbox is worth. -/
noncomputable def Yba.pinned : Pinned := { name := "ybulkcxce", sum := "2d92e4c94c5827b00cdc08f20499190b9338b84beafd81ebad18d0fa0455df57", checked := Yba.checked }
namespace Rows
def none {H : Type} : Left H := { results := [], args := [] }

/-- 'joinery.LawS4931AEqual': WHATEVER THE INPUT: true; the input reads as it did. -/
def lawS4931AEqualSpec : ChangeSpec := { name := "lawS4931AEqual", fn := fun _ => fun
  | [d1, d2, d3, d4] => { results := [.lit (.bool true)], args := [d1, d2, d3, d4] }
  | _ => none }
def lawS4931AEqualRow : OpenClaim := { program := "ybulkcxce", sum := "2d92e4c94c5827b00cdc08f20499190b9338b84beafd81ebad18d0fa0455df57", func := "example.com/joinery/joinery.LawS4931AEqual", spec := "lawS4931AEqual", inPlace := ["maps.clone"], plainKeys := false, apart := false }
def LawS4931AEqualSaid : Prop := lawS4931AEqualRow.holds Yba.pinned (OpenSpec.ofChange lawS4931AEqualSpec)

/-- ITS FALSE NEIGHBOUR: 'it returns false'. Refute it at one input. -/
def lawS4931AEqualWrong : ChangeSpec := { name := "lawS4931AEqual", fn := fun _ => fun
  | [d1, d2, d3, d4] => { results := [.lit (.bool false)], args := [d1, d2, d3, d4] }
  | _ => none }
def LawS4931AEqualWrongFalsely : Prop := lawS4931AEqualRow.holds Yba.pinned (OpenSpec.ofChange lawS4931AEqualWrong)

/-- 'joinery.LawS4931AApart': WHATEVER THE INPUT: true; the input reads as it did. -/
def lawS4931AApartSpec : ChangeSpec := { name := "lawS4931AApart", fn := fun _ => fun
  | [d1, d2] => { results := [.lit (.bool true)], args := [d1, d2] }
  | _ => none }
def lawS4931AApartRow : OpenClaim := { program := "ybulkcxce", sum := "2d92e4c94c5827b00cdc08f20499190b9338b84beafd81ebad18d0fa0455df57", func := "example.com/joinery/joinery.LawS4931AApart", spec := "lawS4931AApart", inPlace := ["maps.clone"], plainKeys := false, apart := false }
def LawS4931AApartSaid : Prop := lawS4931AApartRow.holds Yba.pinned (OpenSpec.ofChange lawS4931AApartSpec)

/-- ITS FALSE NEIGHBOUR: 'it returns false'. Refute it at one input. -/
def lawS4931AApartWrong : ChangeSpec := { name := "lawS4931AApart", fn := fun _ => fun
  | [d1, d2] => { results := [.lit (.bool false)], args := [d1, d2] }
  | _ => none }
def LawS4931AApartWrongFalsely : Prop := lawS4931AApartRow.holds Yba.pinned (OpenSpec.ofChange lawS4931AApartWrong)

/-- 'joinery.LawS4931BRelease': WHATEVER THE INPUT: true; the input reads as it did. -/
def lawS4931BReleaseSpec : ChangeSpec := { name := "lawS4931BRelease", fn := fun _ => fun
  | [d1, d2, d3] => { results := [.lit (.bool true)], args := [d1, d2, d3] }
  | _ => none }
def lawS4931BReleaseRow : OpenClaim := { program := "ybulkcxce", sum := "2d92e4c94c5827b00cdc08f20499190b9338b84beafd81ebad18d0fa0455df57", func := "example.com/joinery/joinery.LawS4931BRelease", spec := "lawS4931BRelease", plainKeys := false, apart := false }
def LawS4931BReleaseSaid : Prop := lawS4931BReleaseRow.holds Yba.pinned (OpenSpec.ofChange lawS4931BReleaseSpec)

/-- ITS FALSE NEIGHBOUR: 'it returns false'. Refute it at one input. -/
def lawS4931BReleaseWrong : ChangeSpec := { name := "lawS4931BRelease", fn := fun _ => fun
  | [d1, d2, d3] => { results := [.lit (.bool false)], args := [d1, d2, d3] }
  | _ => none }
def LawS4931BReleaseWrongFalsely : Prop := lawS4931BReleaseRow.holds Yba.pinned (OpenSpec.ofChange lawS4931BReleaseWrong)

/-- 'joinery.LawS4931CMarks': WHATEVER THE INPUT: true; the input reads as it did. -/
def lawS4931CMarksSpec : ChangeSpec := { name := "lawS4931CMarks", fn := fun _ => fun
  | [d1, d2, d3, d4] => { results := [.lit (.bool true)], args := [d1, d2, d3, d4] }
  | _ => none }
def lawS4931CMarksRow : OpenClaim := { program := "ybulkcxce", sum := "2d92e4c94c5827b00cdc08f20499190b9338b84beafd81ebad18d0fa0455df57", func := "example.com/joinery/joinery.LawS4931CMarks", spec := "lawS4931CMarks", plainKeys := false, apart := false }
def LawS4931CMarksSaid : Prop := lawS4931CMarksRow.holds Yba.pinned (OpenSpec.ofChange lawS4931CMarksSpec)

/-- ITS FALSE NEIGHBOUR: 'it returns false'. Refute it at one input. -/
def lawS4931CMarksWrong : ChangeSpec := { name := "lawS4931CMarks", fn := fun _ => fun
  | [d1, d2, d3, d4] => { results := [.lit (.bool false)], args := [d1, d2, d3, d4] }
  | _ => none }
def LawS4931CMarksWrongFalsely : Prop := lawS4931CMarksRow.holds Yba.pinned (OpenSpec.ofChange lawS4931CMarksWrong)

end Rows
end Go.Proofs.Ybulkcxce
