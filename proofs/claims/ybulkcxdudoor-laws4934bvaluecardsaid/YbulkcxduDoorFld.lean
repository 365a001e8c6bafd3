import Derived.Test.YbulkcxduDoorId
namespace Go.Proofs.YbulkcxduDoor
open Go Go.RowKit
set_option linter.unusedVariables false

theorem field11 (w : World) (E cl sl : Nat) (k : Int) (sel : Bool) (hk : w.heap[cl]? = some (.cells #[.int .i64 k] 3 (0, 0))) (hs : w.cell? ⟨sl, 0, none⟩ = some (.bool sel)) (hne : cl ≠ sl) (h0 : 0 ≤ k) (h1 : k ≤ 10) :
    Calls Ybad.prog 11 #[.pointer (some ⟨E, 0, none⟩), .pointer (some ⟨cl, 0, none⟩), .pointer (some ⟨sl, 0, none⟩)] w fun e w' => e = .returned (.pointer (some ⟨E, if sel then 5 else 4, none⟩)) ∧ w' = w.setCell ⟨cl, 0, none⟩ (.int .i64 (k + 1)) := by
  have c0 : w.cell? ⟨cl, 0, none⟩ = some (.int .i64 k) := cell_block hk 0
  have c1 := free_block hk 0
  have c2 : ∀ u, (w.setCell ⟨cl, 0, none⟩ u).cell? ⟨sl, 0, none⟩ = some (.bool sel) := fun u => (World.cell?_of_block (w := w) (Below.heap_setCell w ⟨cl, 0, none⟩ u sl (fun e => hne e.symm))).trans hs
  cases sel
  all_goals
    go_enter Ybad.func11, Ybad.ntmps11
    go_wp2
    go_ret
    exact ⟨rfl, rfl⟩

theorem val_rng (zs : List Int) : 0 ≤ val zs ∧ val zs ≤ 4294967295 := by
  unfold val
  cases h : num 0 zs with
  | none => simp
  | some m => exact num_range zs 0 m (by omega) (by omega) h

set_option maxHeartbeats 400000 in
theorem parse16 (w : World) (E fv cl sl : Nat) (k : Int) (sel : Bool) (xs : Array Value) (a : Option Addr) (zs : List Int) (c b off : Nat) (hB : By w a zs b off) (hn : zs.length ≤ 1024)
    (hf : w.cell? ⟨fv, 0, none⟩ = some (.func (.func 11) #[] #[.pointer (some ⟨cl, 0, none⟩), .pointer (some ⟨sl, 0, none⟩)]))
    (hE : w.heap[E]? = some (.cells xs 38 (0, 0))) (hx : 5 < xs.size)
    (hk : w.heap[cl]? = some (.cells #[.int .i64 k] 3 (0, 0))) (hs : w.cell? ⟨sl, 0, none⟩ = some (.bool sel)) (hne : cl ≠ sl) (h0 : 0 ≤ k) (h1 : k ≤ 10) :
    Calls Ybad.prog 16 #[.pointer (some ⟨E, 0, none⟩), .slice a zs.length c, .pointer (some ⟨fv, 0, none⟩)] w fun e w' => e = .returned (.bool (okay zs)) ∧ w' = (w.setCell ⟨cl, 0, none⟩ (.int .i64 (k + 1))).setCell ⟨E, if sel then 5 else 4, none⟩ (.int .u32 (val zs)) := by
  obtain ⟨v0, v1⟩ := val_rng zs
  have hEc : E ≠ cl := fun e => by subst e; rw [hE] at hk; simp at hk
  have hEb : ∀ u, (w.setCell ⟨cl, 0, none⟩ u).heap[E]? = some (.cells xs 38 (0, 0)) := fun u => (Below.heap_setCell w ⟨cl, 0, none⟩ u E hEc).trans hE
  have y4 : ∀ u, (w.setCell ⟨cl, 0, none⟩ u).cell? ⟨E, 4, none⟩ = some (xs[4]'(by omega)) := fun u => (cell_block (hEb u) 4).trans (Array.getElem?_eq_getElem (by omega))
  have y5 : ∀ u, (w.setCell ⟨cl, 0, none⟩ u).cell? ⟨E, 5, none⟩ = some (xs[5]'(by omega)) := fun u => (cell_block (hEb u) 5).trans (Array.getElem?_eq_getElem (by omega))
  have f4 : ∀ u, (w.setCell ⟨cl, 0, none⟩ u).frozen? ⟨E, 4, none⟩ = false := fun u => free_block (hEb u) 4
  have f5 : ∀ u, (w.setCell ⟨cl, 0, none⟩ u).frozen? ⟨E, 5, none⟩ = false := fun u => free_block (hEb u) 5
  cases sel
  all_goals
    go_enter Ybad.func16, Ybad.ntmps16
    go_wp2_with (go_at_call 17; refine (parseUint _ a zs c b off hB hn).mono ?_)
    rintro e w1 ⟨rfl, hw⟩
    subst hw
    go_wp2_with (go_at_call 11; refine (field11 _ E cl sl k _ hk hs hne h0 h1).mono ?_)
    go_ret
    exact ⟨rfl, rfl⟩

end Go.Proofs.YbulkcxduDoor
