import Derived.Test.YbulkcxcsFmtKeep
import Derived.Stop.CallBack
import Derived.Stop.IfaceNil
import Derived.WalkSpells
import Derived.WalkLawsBesides
import Derived.Outline
namespace Go.Proofs
open Go.Extern.Stop Go.Stop Go.Extern

theorem Ybaf.call6 (args : Array Value) (w : World) : (callFunc 6 args).run Ybaf.prog w = ((FmtStop.sprintf #[9, 26] #[9] args).run Ybaf.prog w).andThen fun v w' => .ok (.value v) w' :=
  run_callFunc_extern Ybaf.func6 (by kernel_rfl) (by kernel_rfl) (by kernel_rfl) (by kernel_rfl) args w
theorem Ybaf.guard (name : String) (w : World) : (FmtStop.guard name).run Ybaf.prog w = .ok () w := by kernel_rfl
theorem Ybaf.fmt0 : FmtStop.printed? ⟨#[116, 104, 101, 32, 101, 118, 97, 108, 117, 97, 116, 105, 111, 110, 32, 116, 97, 107, 101, 115, 32, 109, 111, 114, 101, 32, 116, 104, 97, 110, 32, 37, 100, 32, 115, 116, 101, 112, 115]⟩ 1 = some [(0, 100, false)] := by kernel_rfl
theorem Ybaf.fmt0r (w : World) : (FmtDoors.printed ⟨#[116, 104, 101, 32, 101, 118, 97, 108, 117, 97, 116, 105, 111, 110, 32, 116, 97, 107, 101, 115, 32, 109, 111, 114, 101, 32, 116, 104, 97, 110, 32, 37, 100, 32, 115, 116, 101, 112, 115]⟩ 1).run Ybaf.prog w = .ok [(0, 100, false)] w := by kernel_rfl
def Ybaf.shape3 : List UInt8 := [5, 3, 0, 0, 0, 0, 0, 0, 0, 105, 110, 116]
theorem Ybaf.op3_100 (name : String) (x : Int) (w : World) : (FmtStop.operand name false 100 false (.iface 3 (.int .i64 x))).run Ybaf.prog w = .ok (Ybaf.shape3, Go.Extern.Stop.digits 8 (x % 2 ^ 64).toNat) w := by kernel_rfl
end Go.Proofs

namespace Go.Proofs.YbulkcxcsFmt
open Go Go.RowKit Go.Extern.Stop Go.Stop Go.Extern
set_option linter.unusedVariables false
attribute [local go_sem] Ybaf.call6 Ybaf.guard Ybaf.fmt0 Ybaf.fmt0r Ybaf.op3_100

/-- spend, where the budget holds. -/
theorem spend_ok (w : World) (bb : Nat) (L n : Int) (hb : w.heap[bb]? = some (.cells #[.int .i64 L] 29 (0, 0))) (h0 : 0 ≤ n) (h1 : n ≤ L) (h2 : L ≤ 9223372036854775807) :
    Calls Ybaf.prog 5 #[.pointer (some ⟨bb, 0, none⟩), .int .i64 n] w fun e w' => e = .returned .nilIface ∧ w' = w.setCell ⟨bb, 0, none⟩ (.int .i64 (L - n)) := by
  have c0 : w.cell? ⟨bb, 0, none⟩ = some (.int .i64 L) := cell_block hb 0
  have c1 := free_block hb 0
  go_enter Ybaf.func5, Ybaf.ntmps5
  go_wp2
  go_ret
  exact ⟨rfl, rfl⟩

/-- "Too Costly" -/
def costly : ByteArray := ⟨#[84, 111, 111, 32, 67, 111, 115, 116, 108, 121]⟩

theorem bad_end {w : World} {bb : Nat} {L : Int} (hb : w.heap[bb]? = some (.cells #[.int .i64 L] 29 (0, 0))) (u t : Value) (o : Obj) (X : World)
    (hX : X = ((((w.setCell ⟨bb, 0, none⟩ u).setCell ⟨bb, 0, none⟩ (.int .i64 (-1))).alloc o).alloc (.cells #[.string costly, t] 40)).drew) :
    X.cell? ⟨w.heap.size + 1, 0, none⟩ = some (.string costly) ∧ X.heap[bb]? = some (.cells #[.int .i64 (-1)] 29 (0, 0)) ∧ Keep (fun i => i = bb) w X := by
  have hlt := lt_of_block hb
  have b1 := block_setCell (block_setCell hb 0 u) 0 (.int .i64 (-1))
  have hk : Keep (fun i => i = bb) w X := by
    subst hX
    exact (((((Keep.refl (fun i => i = bb) w).setCell (p := ⟨bb, 0, none⟩) (fun _ => rfl) u).setCell (p := ⟨bb, 0, none⟩) (fun _ => rfl) (.int .i64 (-1))).alloc o).alloc _).drew
  refine ⟨?_, ?_, hk⟩
  · subst hX
    have := at_alloc (((w.setCell ⟨bb, 0, none⟩ u).setCell ⟨bb, 0, none⟩ (.int .i64 (-1))).alloc o) (.cells #[.string costly, t] 40)
    rw [show (((w.setCell ⟨bb, 0, none⟩ u).setCell ⟨bb, 0, none⟩ (.int .i64 (-1))).alloc o).heap.size = w.heap.size + 1 by simp] at this
    exact cell_block (w := ((((w.setCell ⟨bb, 0, none⟩ u).setCell ⟨bb, 0, none⟩ (.int .i64 (-1))).alloc o).alloc (.cells #[.string costly, t] 40)).drew) this 0
  · subst hX
    show ((((w.setCell ⟨bb, 0, none⟩ u).setCell ⟨bb, 0, none⟩ (.int .i64 (-1))).alloc o).alloc (.cells #[.string costly, t] 40)).heap[bb]? = _
    rw [old_alloc _ _ (by simp; omega), old_alloc _ _ (by simp; omega), b1]
    rfl

/-- spend, where it does not. -/
theorem spend_bad (F : Interp) (w : World) (hF : F.answers w.tape) (bb : Nat) (L n : Int) (hb : w.heap[bb]? = some (.cells #[.int .i64 L] 29 (0, 0))) (h0 : 0 ≤ n) (h1 : L < n) (h2 : -4294967296 ≤ L) (h3 : n ≤ 4294967296) :
    Calls Ybaf.prog 5 #[.pointer (some ⟨bb, 0, none⟩), .int .i64 n] w fun e w' => ∃ g, e = .returned (.iface 37 (.pointer (some ⟨g, 0, none⟩))) ∧ w.heap.size ≤ g ∧ w'.cell? ⟨g, 0, none⟩ = some (.string costly) ∧ w'.heap[bb]? = some (.cells #[.int .i64 (-1)] 29 (0, 0)) ∧ Keep (fun i => i = bb) w w' := by
  have hF' := answers_open hF
  have c0 : w.cell? ⟨bb, 0, none⟩ = some (.int .i64 L) := cell_block hb 0
  have c1 := free_block hb 0
  have hlt := lt_of_block hb
  go_enter Ybaf.func5, Ybaf.ntmps5
  go_wp2
  go_ret
  obtain ⟨r1, r2, r3⟩ := bad_end hb _ _ _ _ rfl
  exact ⟨_, rfl, Nat.le_succ _, r1, r2, r3⟩

end Go.Proofs.YbulkcxcsFmt
