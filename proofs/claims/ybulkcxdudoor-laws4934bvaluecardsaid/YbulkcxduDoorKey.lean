import Derived.Test.YbulkcxduDoorFld
import Derived.Laws.EntriesVeiled
import Derived.BigQuiet
import Derived.BigRegion
namespace Go.Proofs.YbulkcxduDoor
open Go Go.RowKit
set_option linter.unusedVariables false

def form : ByteArray := ⟨#[97, 32, 100, 101, 99, 105, 109, 97, 108, 32, 110, 117, 109, 98, 101, 114, 32, 111, 102, 32, 97, 116, 32, 109, 111, 115, 116, 32, 52, 50, 57, 52, 57, 54, 55, 50, 57, 53]⟩
def keyCells (k : Int) (s : ByteArray) (fv : Nat) : Array Value := #[.int .u32 k, .string s, .func (.func 14) #[] #[.pointer (some ⟨fv, 0, none⟩)], .func (.func 16) #[] #[.pointer (some ⟨fv, 0, none⟩)], .string form, .slice none 0 0, .func (.func 18) #[] #[.pointer (some ⟨fv, 0, none⟩)]]

set_option maxRecDepth 100000 in
set_option maxHeartbeats 400000 in
theorem idKey (w : World) (k : Int) (s : ByteArray) (fn : Fn) (fs cs : Array Value) :
    Calls Ybad.prog 7 #[.int .u32 k, .string s, .func fn fs cs] w fun e w' => ∃ fv, e = .returned (.agg (keyCells k s fv)) ∧ w'.cell? ⟨fv, 0, none⟩ = some (.func fn fs cs) ∧ Keep (fun _ => False) w w' := by
  go_enter Ybad.func7, Ybad.ntmps7
  go_wp2
  have hk : Keep (fun _ => False) w ((w.alloc (.cells #[.func fn fs cs] 39)).alloc (.cells (keyCells k s w.heap.size) 45)) := ((Keep.refl _ _).alloc _).alloc _
  have hc : ((w.alloc (.cells #[.func fn fs cs] 39)).alloc (.cells (keyCells k s w.heap.size) 45)).cell? ⟨w.heap.size, 0, none⟩ = some (.func fn fs cs) := cell_al (cell_block (at_alloc w _) 0) _
  refine bodyPost_ret (v := .agg (keyCells k s w.heap.size)) (by simp [results, Ybad.results7, go_sem, keyCells, form]) rfl ⟨w.heap.size, rfl, hc, hk⟩

end Go.Proofs.YbulkcxduDoor
