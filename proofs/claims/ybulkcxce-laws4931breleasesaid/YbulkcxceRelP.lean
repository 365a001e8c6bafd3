/- Plain facts for LawS4931BRelease: the pool, the rows of plans. -/
import Derived.Test.YbulkcxceRelA
import Derived.Laws.MakeOwn
namespace Go.Proofs.Ybulkcxce.Rel
open Go Go.RowKit
set_option linter.unusedVariables false

/-- The pool behind k rounds. -/
def pool (B k : Nat) : Array Value := #[if 0 < k then .pointer (some ⟨B + 1 + 0, 0, none⟩) else .pointer none, if 1 < k then .pointer (some ⟨B + 1 + 1, 0, none⟩) else .pointer none, if 2 < k then .pointer (some ⟨B + 1 + 2, 0, none⟩) else .pointer none, if 3 < k then .pointer (some ⟨B + 1 + 3, 0, none⟩) else .pointer none, if 4 < k then .pointer (some ⟨B + 1 + 4, 0, none⟩) else .pointer none]

theorem five {k : Nat} (h : k < 5) : k = 0 ∨ k = 1 ∨ k = 2 ∨ k = 3 ∨ k = 4 := by omega
theorem pool_set {B k : Nat} (h : k < 5) : (pool B k).setIfInBounds k (.pointer (some ⟨B + 1 + k, 0, none⟩)) = pool B (k + 1) := by
  rcases five h with rfl | rfl | rfl | rfl | rfl <;> rfl
theorem pool_at {B k : Nat} (h : k < 5) : (pool B k)[k]? = some (.pointer none) := by
  rcases five h with rfl | rfl | rfl | rfl | rfl <;> rfl
theorem pool_get {B t : Nat} (h : t < 5) : (pool B 5)[t]? = some (.pointer (some ⟨B + 1 + t, 0, none⟩)) := by
  rcases five h with rfl | rfl | rfl | rfl | rfl <;> rfl

/-- A row of n, its first k the plans f 0, f 1 .. -/
def part (B : Nat) (f : Nat → Nat) (k n : Nat) : Array Value := ((List.range n).map fun i => if i < k then Value.pointer (some ⟨B + 1 + f i, 0, none⟩) else .pointer none).toArray

theorem part_size (B : Nat) (f : Nat → Nat) (k n : Nat) : (part B f k n).size = n := by simp [part]
theorem part_get {B : Nat} {f : Nat → Nat} {k n i : Nat} (h : i < n) : (part B f k n)[i]? = some (if i < k then Value.pointer (some ⟨B + 1 + f i, 0, none⟩) else .pointer none) := by
  unfold part
  rw [List.getElem?_toArray, List.getElem?_map, List.getElem?_range h]
  rfl
theorem part_made (B : Nat) (f : Nat → Nat) (n : Nat) : madeCells #[.pointer none] n = part B f 0 n := by
  apply Array.ext_getElem?
  intro i
  by_cases h : i < n
  · rw [part_get h, if_neg (by omega)]
    simp [madeCells, h, Nat.mod_one]
  · rw [Array.getElem?_eq_none (by rw [size_madeCells]; omega), Array.getElem?_eq_none (by rw [part_size]; omega)]
theorem part_set {B : Nat} {f : Nat → Nat} {k n : Nat} (h : k < n) : (part B f k n).setIfInBounds k (.pointer (some ⟨B + 1 + f k, 0, none⟩)) = part B f (k + 1) n := by
  apply Array.ext_getElem?
  intro i
  by_cases hi : i < n
  · rw [part_get hi, Array.getElem?_setIfInBounds]
    by_cases e : k = i
    · subst e
      rw [if_pos rfl, if_pos (by rw [part_size]; exact hi), if_pos (by omega)]
    · rw [if_neg e, part_get hi]
      by_cases h2 : i < k
      · rw [if_pos h2, if_pos (by omega)]
      · rw [if_neg h2, if_neg (by omega)]
  · rw [Array.getElem?_eq_none (by simp [part_size]; omega), Array.getElem?_eq_none (by rw [part_size]; omega)]

theorem make53 (B : Nat) (f : Nat → Nat) (n : Nat) (hn : n ≤ 1024) (w : World) :
    (Instr.makeSlice 53 (.int .i64 n) (.int .i64 n)).run Yba.prog w = .ok (.slice (some ⟨w.heap.size, 0, none⟩) n n) (w.alloc (.cells (part B f 0 n) 46)) := by
  obtain ⟨i0, hi0, hz0, hz1, hz2⟩ := info46
  have := run_make (P := Yba.prog) w 53 46 i0 _ Yba.underlying53 hi0 hz0 .i64 .i64 n n (by omega) (by omega) (by rw [hz2]; omega) (by omega)
  rw [hz1, Nat.mul_one, Int.toNat_natCast, show (Value.pointer none).cells = #[Value.pointer none] from rfl, part_made B f n] at this
  exact this
theorem make53z (B : Nat) (f : Nat → Nat) (n : Nat) (hn : n ≤ 1024) (w : World) :
    (Instr.makeSlice 53 (.int .i64 0) (.int .i64 n)).run Yba.prog w = .ok (.slice (some ⟨w.heap.size, 0, none⟩) 0 n) (w.alloc (.cells (part B f 0 n) 46)) := by
  obtain ⟨i0, hi0, hz0, hz1, hz2⟩ := info46
  have := run_make (P := Yba.prog) w 53 46 i0 _ Yba.underlying53 hi0 hz0 .i64 .i64 0 n (by omega) (by omega) (by rw [hz2]; omega) (by omega)
  rw [hz1, Nat.mul_one, Int.toNat_natCast, show (Value.pointer none).cells = #[Value.pointer none] from rfl, part_made B f n] at this
  exact this

/-- What stays from the first loop on: the pool, the plans, all that was there. -/
structure Bs (w W : World) : Prop where
  pool : W.heap[w.heap.size]? = some (.cells (pool w.heap.size 5) 47 (0, 0))
  plans : Plans W w.heap.size
  bel : Below w.heap.size w W
  big : w.heap.size + 6 ≤ W.heap.size

theorem Bs.keep {w W W' : World} {S : Nat → Prop} (h : Bs w W) (k : Keep S W W') (hS : ∀ i, S i → w.heap.size + 6 ≤ i) : Bs w W' := by
  have hb := h.big
  exact ⟨(k.block _ (by omega) (fun e => by have := hS _ e; omega)).trans h.pool, h.plans.keep k (fun t ht e => by have := hS _ e; omega), below_kept h.bel k (fun i e => by have := hS i e; omega) (by omega), Nat.le_trans hb k.size⟩

/-- A whole row of plans in block g. -/
def Full (W : World) (B g n : Nat) (f : Nat → Nat) (k : Nat) : Prop := W.heap[g]? = some (.cells (part B f k n) 46 (0, 0))
theorem Full.row {W : World} {B g n : Nat} {f : Nat → Nat} (h : Full W B g n f n) : Row W B g n f := by
  intro i hi
  rw [cell_block h, part_get hi, if_pos hi]
theorem Full.keep {W W' : World} {B g n k : Nat} {f : Nat → Nat} {S : Nat → Prop} (h : Full W B g n f k) (kk : Keep S W W') (hS : ¬ S g) : Full W' B g n f k := (kk.block g (lt_of_block h) hS).trans h
theorem Full.nilAt {W : World} {B g n k : Nat} {f : Nat → Nat} (h : Full W B g n f k) (hk : k < n) : W.cell? ⟨g, k, none⟩ = some (.pointer none) := by
  rw [cell_block h, part_get hk, if_neg (by omega)]
theorem Full.set {W : World} {B g n k : Nat} {f : Nat → Nat} (h : Full W B g n f k) (hk : k < n) : Full (W.setCell ⟨g, k, none⟩ (.pointer (some ⟨B + 1 + f k, 0, none⟩))) B g n f (k + 1) := by
  unfold Full
  rw [block_setCell h, part_set hk]
theorem Full.made (W : World) (B n : Nat) (f : Nat → Nat) : Full (W.alloc (.cells (part B f 0 n) 46)) B W.heap.size n f 0 := at_alloc W _

end Go.Proofs.Ybulkcxce.Rel
