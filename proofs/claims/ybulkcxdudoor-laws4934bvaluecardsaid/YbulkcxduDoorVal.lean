import Derived.Test.YbulkcxduDoorAU
namespace Go.Proofs.YbulkcxduDoor
open Go Go.RowKit
set_option linter.unusedVariables false

theorem field6 (w : World) (E cl sl : Nat) (k : Int) (sel : Bool) (hk : w.heap[cl]? = some (.cells #[.int .i64 k] 3 (0, 0))) (hs : w.cell? ⟨sl, 0, none⟩ = some (.bool sel)) (hne : cl ≠ sl) (h0 : 0 ≤ k) (h1 : k ≤ 10) :
    Calls Ybad.prog 6 #[.pointer (some ⟨E, 0, none⟩), .pointer (some ⟨cl, 0, none⟩), .pointer (some ⟨sl, 0, none⟩)] w fun e w' => e = .returned (.pointer (some ⟨E, if sel then 5 else 4, none⟩)) ∧ w' = w.setCell ⟨cl, 0, none⟩ (.int .i64 (k + 1)) := by
  have c0 : w.cell? ⟨cl, 0, none⟩ = some (.int .i64 k) := cell_block hk 0
  have c1 := free_block hk 0
  have c2 : ∀ u, (w.setCell ⟨cl, 0, none⟩ u).cell? ⟨sl, 0, none⟩ = some (.bool sel) := fun u => (World.cell?_of_block (w := w) (Below.heap_setCell w ⟨cl, 0, none⟩ u sl (fun e => hne e.symm))).trans hs
  cases sel
  all_goals
    go_enter Ybad.func6, Ybad.ntmps6
    go_wp2
    go_ret
    exact ⟨rfl, rfl⟩

set_option maxRecDepth 100000 in
set_option maxHeartbeats 400000 in
theorem value14 (w : World) (E fv cl sl B n u : Nat) (k : Int) (sel : Bool) (sv : Value) (xs : List Value) (hown : w.ownsRow B 5 1 sv n xs) (hBw : B ≤ w.heap.size) (hn : n ≤ 1024) (htab : ∀ v, Tab (w.setCell ⟨cl, 0, none⟩ v)) (hu : u < 4294967296)
    (hf : w.cell? ⟨fv, 0, none⟩ = some (.func (.func 6) #[] #[.pointer (some ⟨cl, 0, none⟩), .pointer (some ⟨sl, 0, none⟩)]))
    (hE : w.cell? ⟨E, if sel then 5 else 4, none⟩ = some (.int .u32 u)) (hEc : E ≠ cl) (hfc : fv ≠ cl)
    (hk : w.heap[cl]? = some (.cells #[.int .i64 k] 3 (0, 0))) (hs : w.cell? ⟨sl, 0, none⟩ = some (.bool sel)) (hne : cl ≠ sl) (h0 : 0 ≤ k) (h1 : k ≤ 10) :
    Calls Ybad.prog 14 #[sv, .pointer (some ⟨E, 0, none⟩), .pointer (some ⟨fv, 0, none⟩)] w fun e w' => ∃ v', e = .returned v' ∧ w'.ownsRow B 5 1 v' (n + (Lib.decDigits u).length) (xs ++ Lib.byteCells (Lib.decDigits u)) ∧ Below B (w.setCell ⟨cl, 0, none⟩ (.int .i64 (k + 1))) w' := by
  have hown1 : ∀ v, (w.setCell ⟨cl, 0, none⟩ v).ownsRow B 5 1 sv n xs := fun v => by
    obtain ⟨o1, o2⟩ := hown
    refine ⟨o1, ?_⟩
    rcases o2 with o2 | ⟨g, cap, cur, e1, e2, hb, r⟩
    · exact Or.inl o2
    · refine Or.inr ⟨g, cap, cur, e1, e2, (Below.heap_setCell w ⟨cl, 0, none⟩ v g (fun e => ?_)).trans hb, r⟩
      subst e
      rw [hk] at hb
      simp at hb
  have hE1 : ∀ v, (w.setCell ⟨cl, 0, none⟩ v).cell? ⟨E, if sel then 5 else 4, none⟩ = some (.int .u32 u) := fun v => (World.cell?_of_block (w := w) (Below.heap_setCell w ⟨cl, 0, none⟩ v E hEc)).trans hE
  have hsz : ∀ v, (w.setCell ⟨cl, 0, none⟩ v).heap.size = w.heap.size := fun v => by simp
  have HO := show Hid _ from hown1
  have HT := show Hid _ from htab
  have hu' : (u : Int) ≤ 4294967295 := by omega
  clear hown htab
  rcases Bool.eq_false_or_eq_true sel with hsel | hsel
  all_goals
    rw [hsel] at hE1
    simp only [if_true, if_false, Bool.false_eq_true] at hE1
    go_enter Ybad.func14, Ybad.ntmps14
    go_wp2_with (first
      | (go_at_call 6; refine (field6 _ E cl sl k sel hk hs hne h0 h1).mono ?_)
      | (go_at_call 15; refine (append15 B n u hu sv xs _ (HO.out _) (by rw [hsz]; exact hBw) hn (HT.out _)).mono ?_; rintro e w' ⟨v', rfl, r1, r2⟩))
    all_goals
      go_ret
      exact ⟨v', rfl, r1, r2⟩

end Go.Proofs.YbulkcxduDoor
