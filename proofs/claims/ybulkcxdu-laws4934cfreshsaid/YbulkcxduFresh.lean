import Derived.Test.YbulkcxduNew
namespace Go.Proofs.Ybulkcxdu
open Go Go.RowKit
set_option linter.unusedVariables false

theorem neq30 (w : World) : (binOp .neq 30 .nilFunc .nilFunc).run Yba.prog w = .ok (.bool false) w := by kernel_rfl
theorem neq22 (w : World) : (binOp .neq 22 (.slice none 0 0) (.slice none 0 0)).run Yba.prog w = .ok (.bool false) w := by kernel_rfl
theorem neq49 (w : World) : (binOp .neq 49 (.slice none 0 0) (.slice none 0 0)).run Yba.prog w = .ok (.bool false) w := by kernel_rfl
theorem neq32 (w : World) : (binOp .neq 32 (.slice none 0 0) (.slice none 0 0)).run Yba.prog w = .ok (.bool false) w := by kernel_rfl
theorem neq31 (w : World) : (binOp .neq 31 (.map none) (.map none)).run Yba.prog w = .ok (.bool false) w := by kernel_rfl
theorem neq54 (w : World) : (binOp .neq 54 (.pointer none) (.pointer none)).run Yba.prog w = .ok (.bool false) w := by kernel_rfl
theorem neq58 (w : World) : (binOp .neq 58 .nilIface .nilIface).run Yba.prog w = .ok (.bool false) w := by kernel_rfl
attribute [local go_sem] neq30 neq22 neq49 neq32 neq31 neq54 neq58

theorem size_ (w : World) (g : Nat) (a : Option Addr) (n c : Nat) (h : w.cell? ⟨g, 0, none⟩ = some (.slice a n c)) :
    Calls Yba.prog 5 #[.pointer (some ⟨g, 0, none⟩)] w fun e w' => e = .returned (.int .i64 n) ∧ w' = w := by
  go_enter Yba.func5, Yba.ntmps5
  go_wp2
  go_ret
  exact ⟨rfl, rfl⟩

set_option maxRecDepth 100000 in
set_option maxHeartbeats 1000000 in
theorem fresh (w : World) (a : Option Addr) (n c : Nat) (name : ByteArray) (hn : n ≤ 1024) :
    Calls Yba.prog 3 #[.slice a n c, .string name] w fun e w' => e = .returned (.bool true) ∧ Below w.heap.size w w' := by
  obtain ⟨f, zs, hf, hz, hzs, hneq⟩ := reader_cells
  have hn' : (n : Int) ≤ 1024 := by omega
  have hi46 : (Yba.prog.info? 46).map (·.size) = some zs.toList.length := by rw [Array.length_toList, hzs]; kernel_rfl
  go_enter Yba.func3, Yba.ntmps3
  go_wp2_with (go_at_call 4; refine (newReader f (fun gb gs name => (hf gb gs name).1) _ _ name).mono ?_)
  rintro e wm ⟨gr, gs, gb, ab, rfl, hb, hgb, hgs, k1⟩
  have hR := (hf gb gs name).2
  clear hf
  have c0 : wm.cell? ⟨gr, 0, none⟩ = some (.pointer (some ⟨gb, 0, none⟩)) := (cell_block hb 0).trans hR.r
  have c1 : wm.cell? ⟨gr, 1, none⟩ = some (.pointer (some ⟨gs, 0, none⟩)) := (cell_block hb 1).trans hR.s
  have c2 : wm.cell? ⟨gr, 2, none⟩ = some .nilFunc := (cell_block hb 2).trans hR.warn
  have c3 : wm.cell? ⟨gr, 3, none⟩ = some (.map none) := (cell_block hb 3).trans hR.unknown
  have c4 : wm.cell? ⟨gr, 4, none⟩ = some (.int .i64 0) := (cell_block hb 4).trans hR.paths
  have c5 : wm.cell? ⟨gr, 5, none⟩ = some (.slice none 0 0) := (cell_block hb 5).trans hR.words
  have c6 : wm.cell? ⟨gr, 6, none⟩ = some (.string ⟨#[46]⟩) := (cell_block hb 6).trans hR.dir
  have c442 : wm.cell? ⟨gr, 442, none⟩ = some (.int .i64 0) := (cell_block hb 442).trans hR.entries
  have c443 : wm.cell? ⟨gr, 443, none⟩ = some (.bool false) := (cell_block hb 443).trans hR.decided
  have c444 : wm.cell? ⟨gr, 444, none⟩ = some (.bool false) := (cell_block hb 444).trans hR.streams
  have c664 : wm.cell? ⟨gr, 664, none⟩ = some (.bool false) := (cell_block hb 664).trans hR.ahead
  have c665 : wm.cell? ⟨gr, 665, none⟩ = some (.int .i64 4194304) := (cell_block hb 665).trans hR.runBytes
  have c666 : wm.cell? ⟨gr, 666, none⟩ = some (.int .i64 64) := (cell_block hb 666).trans hR.fanIn
  have c667 : wm.cell? ⟨gr, 667, none⟩ = some (.slice none 0 0) := (cell_block hb 667).trans hR.buf
  have c668 : wm.cell? ⟨gr, 668, none⟩ = some (.slice none 0 0) := (cell_block hb 668).trans hR.offs
  have c669 : wm.cell? ⟨gr, 669, none⟩ = some (.int .i64 0) := (cell_block hb 669).trans hR.held
  have c674 : wm.cell? ⟨gr, 674, none⟩ = some (.pointer none) := (cell_block hb 674).trans hR.out
  have c675 : wm.cell? ⟨gr, 675, none⟩ = some (.bool false) := (cell_block hb 675).trans hR.sorted
  have c676 : wm.cell? ⟨gr, 676, none⟩ = some (.string name) := (cell_block hb 676).trans hR.name
  have c677 : wm.cell? ⟨gr, 677, none⟩ = some .nilIface := (cell_block hb 677).trans hR.err
  have hrange : wm.rangeAt gr 7 zs.toList := fun j v hj => by
    rw [← hR.set] at hj
    rw [cell_block hb]
    rw [List.getElem?_take] at hj
    split at hj
    · rw [List.getElem?_drop] at hj
      simpa using hj
    · cases hj
  have hsrc : wm.cell? ⟨w.heap.size, 2, none⟩ = some (.int .i64 0) := (k1.cell (p := ⟨w.heap.size, 2, none⟩) (by simp) (fun e => e)).trans (cell_block (at_alloc w _) 2)
  have kw : Keep (fun _ => False) w wm := keep_far ((Keep.refl _ _).alloc _) k1 (fun _ e => e.elim)
  clear hb hR k1
  go_wp2_with (go_at_call 5; refine (size_ _ gb ab 65536 65536 hgb).mono ?_)
  rintro e w2 ⟨rfl, hw⟩
  subst hw
  go_wp2_with (first
    | (refine wpList_load_mid rfl 46 (.tmp 177) rfl gr 7 rfl zs.toList _ hrange Yba.underlying46 rfl hi46 ?_)
    | (refine wpList_built _ rfl 46 _ rfl [] rfl zs hz ?_))
  go_ret
  exact ⟨rfl, kw.below (fun _ e => e.elim) (Nat.le_refl _)⟩

end Go.Proofs.Ybulkcxdu
