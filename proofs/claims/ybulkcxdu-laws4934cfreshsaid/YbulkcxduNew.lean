import Derived.Test.YbulkcxduRd
import Derived.OwnWalk
import Derived.WalkSpells
import Derived.WalkLawsBesides
import Derived.Outline
namespace Go.Proofs.Ybulkcxdu
open Go Go.RowKit
set_option linter.unusedVariables false

theorem assert_no (p : Value) (w : World) : (Instr.typeAssert (.iface 23 p) 66 28 true).run Yba.prog w = .ok (.tuple #[.pointer none, .bool false]) w := by kernel_rfl
attribute [local go_sem] assert_no

theorem info5 : ∃ i0, Yba.prog.info? 5 = some i0 ∧ i0.zero = some (.int .u8 0) ∧ i0.size = 1 ∧ i0.bytes = 1 := by
  have h : (Yba.prog.info? 5).map (fun i => (i.zero, i.size, i.bytes)) = some (some (.int .u8 0), 1, 1) := by kernel_rfl
  cases hj : Yba.prog.info? 5 with
  | none => rw [hj] at h; cases h
  | some j => rw [hj] at h; simp at h; exact ⟨j, rfl, h.1, h.2.1, h.2.2⟩

theorem reset_end {w : World} {g : Nat} (hb : w.heap[g]? = some (.cells #[.slice none 0 0, .nilIface, .int .i64 0, .int .i64 0, .nilIface, .int .i64 0, .int .i64 0] 70 (0, 0))) (u v : Value) (X : World)
    (hX : X = ((((((w.setCell ⟨g, 0, none⟩ u).setCell ⟨g, 1, none⟩ v).setCell ⟨g, 2, none⟩ (.int .i64 0)).setCell ⟨g, 3, none⟩ (.int .i64 0)).setCell ⟨g, 4, none⟩ .nilIface).setCell ⟨g, 5, none⟩ (.int .i64 (-1))).setCell ⟨g, 6, none⟩ (.int .i64 (-1))) :
    X.cell? ⟨g, 0, none⟩ = some u ∧ Keep (fun i => i = g) w X := by
  subst hX
  have k0 := (Keep.refl (fun i => i = g) w).setCell (p := ⟨g, 0, none⟩) (fun _ => rfl) u
  have k1 := k0.setCell (p := ⟨g, 1, none⟩) (fun _ => rfl) v
  have k2 := k1.setCell (p := ⟨g, 2, none⟩) (fun _ => rfl) (.int .i64 0)
  have k3 := k2.setCell (p := ⟨g, 3, none⟩) (fun _ => rfl) (.int .i64 0)
  have k4 := k3.setCell (p := ⟨g, 4, none⟩) (fun _ => rfl) .nilIface
  have k5 := k4.setCell (p := ⟨g, 5, none⟩) (fun _ => rfl) (.int .i64 (-1))
  refine ⟨?_, k5.setCell (p := ⟨g, 6, none⟩) (fun _ => rfl) (.int .i64 (-1))⟩
  rw [cell_block (block_setCell (block_setCell (block_setCell (block_setCell (block_setCell (block_setCell (block_setCell hb 0 u) 1 v) 2 (.int .i64 0)) 3 (.int .i64 0)) 4 .nilIface) 5 (.int .i64 (-1))) 6 (.int .i64 (-1))) 0]
  simp

set_option maxHeartbeats 400000 in
theorem reset (w : World) (g : Nat) (a : Option Addr) (n c : Nat) (t : TypeId) (p : Value) (hb : w.heap[g]? = some (.cells #[.slice none 0 0, .nilIface, .int .i64 0, .int .i64 0, .nilIface, .int .i64 0, .int .i64 0] 70 (0, 0))) :
    Calls Yba.prog 8 #[.pointer (some ⟨g, 0, none⟩), .slice a n c, .iface t p] w fun e w' => e = .returned (.tuple #[]) ∧ w'.cell? ⟨g, 0, none⟩ = some (.slice a n c) ∧ Keep (fun i => i = g) w w' := by
  have c0 : w.cell? ⟨g, 0, none⟩ = some (.slice none 0 0) := cell_block hb 0
  have c1 : w.cell? ⟨g, 1, none⟩ = some .nilIface := cell_block hb 1
  have c2 : w.cell? ⟨g, 2, none⟩ = some (.int .i64 0) := cell_block hb 2
  have c3 : w.cell? ⟨g, 3, none⟩ = some (.int .i64 0) := cell_block hb 3
  have c4 : w.cell? ⟨g, 4, none⟩ = some .nilIface := cell_block hb 4
  have c5 : w.cell? ⟨g, 5, none⟩ = some (.int .i64 0) := cell_block hb 5
  have c6 : w.cell? ⟨g, 6, none⟩ = some (.int .i64 0) := cell_block hb 6
  have f0 := free_block hb 0
  have f1 := free_block hb 1
  have f2 := free_block hb 2
  have f3 := free_block hb 3
  have f4 := free_block hb 4
  have f5 := free_block hb 5
  have f6 := free_block hb 6
  go_enter Yba.func8, Yba.ntmps8
  go_wp2
  go_end0
  obtain ⟨r1, r2⟩ := reset_end hb (.slice a n c) (.iface t p) _ rfl
  exact ⟨rfl, r1, r2⟩

set_option maxHeartbeats 400000 in
theorem newReaderSize (w : World) (p : Value) :
    Calls Yba.prog 6 #[.iface 23 p, .int .i64 65536] w fun e w' => ∃ g a, e = .returned (.pointer (some ⟨g, 0, none⟩)) ∧ w'.cell? ⟨g, 0, none⟩ = some (.slice a 65536 65536) ∧ Keep (fun _ => False) w w' := by
  obtain ⟨i0, hi0, hz0, hz1, hz2⟩ := info5
  go_enter Yba.func6, Yba.ntmps6
  go_wp2_with (at_make; refine wpList_make_full _ rfl _ _ 22 rfl 0 5 i0 (.int .u8 0) 1 Yba.underlying22 hi0 hz0 hz1 .i64 .i64 _ _ 65536 rfl rfl rfl rfl (by rw [hz2]; omega) (by unfold maxLen; omega) (Nat.zero_le _) ?_)
  intro w1 hown hg
  clear hown
  have hb : w1.heap[w.heap.size]? = some (.cells #[.slice none 0 0, .nilIface, .int .i64 0, .int .i64 0, .nilIface, .int .i64 0, .int .i64 0] 70 (0, 0)) := (hg.block _ (by simp) (by simp)).trans (at_alloc w _)
  have k1 : Keep (fun _ => False) w w1 := ((Keep.refl _ _).alloc _).grown hg (fun j hj _ => by cases hj)
  clear hg
  go_wp2_with (go_at_call 8; refine (reset _ w.heap.size (some ⟨w.heap.size + 1, 0, none⟩) 65536 65536 23 p hb).mono ?_)
  rintro e w2 ⟨rfl, hc, k2⟩
  go_wp2
  go_ret
  exact ⟨_, _, rfl, hc, keep_far k1 k2 (fun i e => by omega)⟩

def scanCells (q : Option Addr) (name : ByteArray) (b : Bool) : Array Value := #[.pointer q, .string name, .bool b, .int .i64 0, .int .i64 0, .int .i64 0, .slice none 0 0, .slice none 0 0, .slice none 0 0, .slice none 0 0, .slice none 0 0, .slice none 0 0, .int .i64 0]

set_option maxHeartbeats 400000 in
theorem newScanner (w : World) (q : Option Addr) (name : ByteArray) :
    Calls Yba.prog 7 #[.pointer q, .string name] w fun e w' => e = .returned (.pointer (some ⟨w.heap.size, 0, none⟩)) ∧ w' = w.alloc (.cells (scanCells q name false) 63) := by
  go_enter Yba.func7, Yba.ntmps7
  go_wp2
  go_ret
  exact ⟨rfl, rfl⟩

/-- A composite literal, its cells by one equation. -/
theorem wpList_built (w : World) {ops : Array Oper} {rest : List Oper} {o : Oper} {a : Act} {Q : Exit → Act → World → Prop} (hg : o.guard = none) (t : TypeId) (ps : Array (Nat × Operand)) (hop : o.op = Op.build t ps) (vs : List (Nat × Value)) (hvs : (ps.toList.map fun p => (p.1, a.eval p.2)) = vs)
    (cells : Array Value) (h : Yba.prog.built t vs = some cells) (hK : wpList Yba.prog ops Q rest (a.put o.dst (.agg cells)) w) : wpList Yba.prog ops Q (o :: rest) a w := by
  refine wpList_plain hg fun K hK' => ?_
  have hr := run_build (P := Yba.prog) w t (ps.map fun p => (p.1, a.eval p.2)) cells (by rw [Array.toList_map, hvs]; exact h)
  unfold Oper.wp
  simp only [execOp, hop, hr, Result.andThen, Sem.run_bind]
  exact hK' _ _ hK

set_option maxRecDepth 100000 in
set_option maxHeartbeats 400000 in
theorem newReader (f : Nat → Nat → ByteArray → Array Value) (hf : ∀ gb gs name, Yba.prog.built 60 (rdParts gb gs name) = some (f gb gs name)) (w : World) (p : Value) (name : ByteArray) :
    Calls Yba.prog 4 #[.iface 23 p, .string name, .nilFunc] w fun e w' => ∃ gr gs gb a, e = .returned (.pointer (some ⟨gr, 0, none⟩)) ∧ w'.heap[gr]? = some (.cells (f gb gs name) 60 (0, 0)) ∧ w'.cell? ⟨gb, 0, none⟩ = some (.slice a 65536 65536) ∧ w'.cell? ⟨gs, 2, none⟩ = some (.bool true) ∧ Keep (fun _ => False) w w' := by
  go_enter Yba.func4, Yba.ntmps4
  go_wp2_with (go_at_call 6; refine (newReaderSize _ p).mono ?_)
  rintro e w1 ⟨gb, a, rfl, hgb, k1⟩
  go_wp2_with (go_at_call 7; refine (newScanner _ _ _).mono ?_)
  rintro e w2 ⟨rfl, rfl⟩
  have hs : (w1.alloc (.cells (scanCells (some ⟨gb, 0, none⟩) name false) 63)).heap[w1.heap.size]? = some (.cells (scanCells (some ⟨gb, 0, none⟩) name false) 63 (0, 0)) := at_alloc _ _
  have k2 : Keep (fun _ => False) w1 (w1.alloc (.cells (scanCells (some ⟨gb, 0, none⟩) name false) 63)) := (Keep.refl _ _).alloc _
  have c2 : (w1.alloc (.cells (scanCells (some ⟨gb, 0, none⟩) name false) 63)).cell? ⟨w1.heap.size, 2, none⟩ = some (.bool false) := cell_block hs 2
  have f2 := free_block hs 2
  have hgs := lt_of_block hs
  generalize w1.alloc (.cells (scanCells (some ⟨gb, 0, none⟩) name false) 63) = w2 at *
  go_wp2_with (refine wpList_built _ rfl 60 _ rfl (rdParts gb w1.heap.size name) rfl (f gb w1.heap.size name) (hf _ _ _) ?_)
  go_ret
  have k3 : Keep (fun i => i = w1.heap.size) w2 ((w2.setCell ⟨w1.heap.size, 2, none⟩ (.bool true)).alloc (.cells (f gb w1.heap.size name) 60)) := ((Keep.refl (fun i => i = w1.heap.size) w2).setCell (p := ⟨w1.heap.size, 2, none⟩) (fun _ => rfl) _).alloc _
  have k4 : Keep (fun _ => False) w1 _ := keep_far k2 k3 (fun i e => by omega)
  refine ⟨w2.heap.size, w1.heap.size, gb, a, rfl, ?_, ?_, ?_, keep_far k1 k4 (fun _ e => e.elim)⟩
  · have := at_alloc (w2.setCell ⟨w1.heap.size, 2, none⟩ (.bool true)) (.cells (f gb w1.heap.size name) 60)
    rwa [show (w2.setCell ⟨w1.heap.size, 2, none⟩ (.bool true)).heap.size = w2.heap.size by simp] at this
  · exact (k4.cell (p := ⟨gb, 0, none⟩) (lt_of_cell hgb) (fun e => e)).trans hgb
  · refine (World.cell?_of_block (w := w2.setCell ⟨w1.heap.size, 2, none⟩ (.bool true)) (old_alloc _ _ (by simpa using hgs))).trans ?_
    rw [cell_block (block_setCell hs 2 (.bool true)) 2]
    rfl

end Go.Proofs.Ybulkcxdu
