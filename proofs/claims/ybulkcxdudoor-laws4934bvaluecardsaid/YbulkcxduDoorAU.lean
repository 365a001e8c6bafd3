import Derived.Test.YbulkcxduDoorLaid
import Derived.Lib.LaidTab
namespace Go.Proofs.YbulkcxduDoor
open Go Go.RowKit
set_option linter.unusedVariables false

/-- The table's name. -/
def pow10Name : String := Rows.lawS4934BValueRow.named.headD ""
/-- The table reads as it was laid. -/
def Tab (w : World) : Prop := Lib.TabIs Ybad.prog w pow10Name .u64 Lib.pow10Tab

theorem Tab.below {w w' : World} (h : Tab w) (k : Below w.heap.size w w') : Tab w' := Lib.tabBelow_of_tabIs h w' k

theorem append19 (B n u : Nat) (hu : u < 4294967296) (sv : Value) (xs : List Value) (w : World) (hown : w.ownsRow B 5 1 sv n xs) (hBw : B ≤ w.heap.size) (hn : n ≤ 1024) (htab : Tab w) :
    Calls Ybad.prog 19 #[sv, .int .u64 u, .int .i64 10] w fun e w' => ∃ v', e = .returned v' ∧ w'.ownsRow B 5 1 v' (n + (Lib.decDigits u).length) (xs ++ Lib.byteCells (Lib.decDigits u)) ∧ Below B w w' := by
  by_cases h : u < 100
  · exact (Any.internal_strconv_AppendUint_10_small Ybad.laysAU B n u h sv xs w hown hBw (by omega)).mono fun e w' ⟨v', h1, h2, h3, _⟩ => ⟨v', h1, h2, h3⟩
  · exact (Any.internal_strconv_AppendUint_10_big Ybad.laysAU B n u (by omega) (by omega) sv xs w hown hBw (by omega) htab).mono fun e w' ⟨v', h1, h2, h3, _⟩ => ⟨v', h1, h2, h3⟩

theorem append15 (B n u : Nat) (hu : u < 4294967296) (sv : Value) (xs : List Value) (w : World) (hown : w.ownsRow B 5 1 sv n xs) (hBw : B ≤ w.heap.size) (hn : n ≤ 1024) (htab : Tab w) :
    Calls Ybad.prog 15 #[sv, .int .u64 u, .int .i64 10] w fun e w' => ∃ v', e = .returned v' ∧ w'.ownsRow B 5 1 v' (n + (Lib.decDigits u).length) (xs ++ Lib.byteCells (Lib.decDigits u)) ∧ Below B w w' := by
  go_enter Ybad.func15, Ybad.ntmps15
  go_wp2_with (go_at_call 19; refine (append19 B n u hu sv xs w hown hBw hn htab).mono ?_; rintro e w' ⟨v', rfl, h1, h2⟩)
  go_ret
  exact ⟨v', rfl, h1, h2⟩

end Go.Proofs.YbulkcxduDoor
