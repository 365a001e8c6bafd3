import Derived.Test.YbulkcxduKeep
import Derived.WalkKit
import Derived.Deep.MidRow
namespace Go.Proofs.Ybulkcxdu
open Go Go.RowKit
set_option linter.unusedVariables false

/-- What a new Reader is built of. -/
def rdParts (gb gs : Nat) (name : ByteArray) : List (Nat × Value) := [(0, .pointer (some ⟨gb, 0, none⟩)), (1, .pointer (some ⟨gs, 0, none⟩)), (2, .nilFunc), (6, .string ⟨#[46]⟩), (16, .string name),
  (14, .agg #[.int .i64 4194304, .int .i64 64, .slice none 0 0, .slice none 0 0, .int .i64 0, .pointer none, .pointer none, .slice none 0 0, .pointer none, .pointer none])]

/-- The cells of a new Reader. -/
structure Rd (cs : Array Value) (zs : Array Value) (gb gs : Nat) (name : ByteArray) : Prop where
  r : cs[0]? = some (.pointer (some ⟨gb, 0, none⟩))
  s : cs[1]? = some (.pointer (some ⟨gs, 0, none⟩))
  warn : cs[2]? = some .nilFunc
  unknown : cs[3]? = some (.map none)
  paths : cs[4]? = some (.int .i64 0)
  words : cs[5]? = some (.slice none 0 0)
  dir : cs[6]? = some (.string ⟨#[46]⟩)
  set : (cs.toList.drop 7).take 216 = zs.toList
  entries : cs[442]? = some (.int .i64 0)
  decided : cs[443]? = some (.bool false)
  streams : cs[444]? = some (.bool false)
  ahead : cs[664]? = some (.bool false)
  runBytes : cs[665]? = some (.int .i64 4194304)
  fanIn : cs[666]? = some (.int .i64 64)
  buf : cs[667]? = some (.slice none 0 0)
  offs : cs[668]? = some (.slice none 0 0)
  held : cs[669]? = some (.int .i64 0)
  out : cs[674]? = some (.pointer none)
  sorted : cs[675]? = some (.bool false)
  name : cs[676]? = some (.string name)
  err : cs[677]? = some .nilIface

theorem reader_cells : ∃ (f : Nat → Nat → ByteArray → Array Value) (zs : Array Value), (∀ gb gs name, Yba.prog.built 60 (rdParts gb gs name) = some (f gb gs name) ∧ Rd (f gb gs name) zs gb gs name) ∧
    Yba.prog.built 46 [] = some zs ∧ zs.size = 216 ∧ ∀ w, (binOp .neq 46 (.agg zs) (.agg zs)).run Yba.prog w = .ok (.bool false) w :=
  ⟨fun gb gs name => (Yba.prog.built 60 (rdParts gb gs name)).getD #[], (Yba.prog.built 46 []).getD #[],
    fun gb gs name => ⟨by kernel_rfl, ⟨by kernel_rfl, by kernel_rfl, by kernel_rfl, by kernel_rfl, by kernel_rfl, by kernel_rfl, by kernel_rfl, by kernel_rfl, by kernel_rfl, by kernel_rfl, by kernel_rfl, by kernel_rfl, by kernel_rfl, by kernel_rfl, by kernel_rfl, by kernel_rfl, by kernel_rfl, by kernel_rfl, by kernel_rfl, by kernel_rfl, by kernel_rfl⟩⟩,
    by kernel_rfl, by kernel_rfl, fun w => by kernel_rfl⟩

end Go.Proofs.Ybulkcxdu
