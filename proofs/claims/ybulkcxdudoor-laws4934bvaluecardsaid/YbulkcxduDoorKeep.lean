/- What a stretch of the run leaves as it was: every block below the old heap's end, but for those of S. -/
import Derived.Test.YbulkcxduDoorRows
import Derived.WalkKit
import Derived.WalkSmall
import Derived.Below
namespace Go.Proofs.YbulkcxduDoor
open Go Go.RowKit

structure Keep (S : Nat → Prop) (W W' : World) : Prop where
  os : W'.os = W.os
  tape : W'.tape = W.tape
  output : W'.output = W.output
  size : W.heap.size ≤ W'.heap.size
  block : ∀ i, i < W.heap.size → ¬ S i → W'.heap[i]? = W.heap[i]?

section
variable {S T : Nat → Prop} {W W' W'' : World}

theorem Keep.refl (S : Nat → Prop) (W : World) : Keep S W W := ⟨rfl, rfl, rfl, Nat.le_refl _, fun _ _ _ => rfl⟩
theorem Keep.trans (h : Keep S W W') (k : Keep S W' W'') : Keep S W W'' :=
  ⟨k.os.trans h.os, k.tape.trans h.tape, k.output.trans h.output, Nat.le_trans h.size k.size, fun i hi hS => (k.block i (Nat.lt_of_lt_of_le hi h.size) hS).trans (h.block i hi hS)⟩
theorem Keep.mono (h : Keep S W W') (hST : ∀ i, i < W.heap.size → S i → T i) : Keep T W W' :=
  ⟨h.os, h.tape, h.output, h.size, fun i hi hT => h.block i hi (fun hS => hT (hST i hi hS))⟩
theorem Keep.drew (h : Keep S W W') : Keep S W W'.drew := ⟨h.os, h.tape, h.output, h.size, h.block⟩
theorem Keep.drewN (h : Keep S W W') (n : Nat) : Keep S W (W'.drewN n) := ⟨h.os, h.tape, h.output, h.size, h.block⟩
theorem Keep.alloc (h : Keep S W W') (o : Obj) : Keep S W (W'.alloc o) :=
  ⟨h.os, h.tape, h.output, Nat.le_trans h.size (by simp), fun i hi hS => (Below.heap_alloc W' o i (Nat.lt_of_lt_of_le hi h.size)).trans (h.block i hi hS)⟩
theorem Keep.setCell (h : Keep S W W') {p : Addr} (hp : p.block < W.heap.size → S p.block) (u : Value) : Keep S W (W'.setCell p u) := by
  refine ⟨h.os, h.tape, h.output, Nat.le_trans h.size (by simp), fun i hi hS => ?_⟩
  rw [Below.heap_setCell W' p u i (fun e => hS (by subst e; exact hp hi))]
  exact h.block i hi hS
theorem Keep.grown {row : Option Nat} (h : Keep S W W') (hg : W'.grownBy W'' row) (hr : ∀ j, row = some j → j < W.heap.size → S j) : Keep S W W'' :=
  ⟨hg.os.trans h.os, hg.tape.trans h.tape, hg.output.trans h.output, Nat.le_trans h.size hg.size, fun i hi hS =>
    (hg.block i (Nat.lt_of_lt_of_le hi h.size) (fun e => hS (hr i e.symm hi))).trans (h.block i hi hS)⟩
theorem Keep.below {B : Nat} (h : Keep S W W') (hS : ∀ i, S i → B ≤ i) (hB : B ≤ W.heap.size) : Below B W W' :=
  ⟨h.os, h.tape, h.output, h.size, fun i hi => h.block i (by omega) (fun hSi => by have := hS i hSi; omega)⟩
theorem Keep.of_below (h : Below W.heap.size W W') : Keep (fun _ => False) W W' := ⟨h.os, h.tape, h.output, h.size, fun i hi _ => h.block i hi⟩
theorem Keep.cell (h : Keep S W W') {p : Addr} (hp : p.block < W.heap.size) (hS : ¬ S p.block) : W'.cell? p = W.cell? p := World.cell?_of_block (w := W) (h.block p.block hp hS)
theorem Keep.frozen (h : Keep S W W') {p : Addr} (hp : p.block < W.heap.size) (hS : ¬ S p.block) : W'.frozen? p = W.frozen? p := World.frozen?_of_block (w := W) (h.block p.block hp hS)
end

/-- Below B, over a stretch that keeps all but S. -/
theorem below_kept {B : Nat} {w W W' : World} {S : Nat → Prop} (h : Below B w W) (k : Keep S W W') (hS : ∀ i, S i → B ≤ i) (hB : B ≤ W.heap.size) : Below B w W' :=
  h.trans (k.below hS hB)

/-- A block that has just been laid; the elder ones. -/
theorem at_alloc (w : World) (o : Obj) : (w.alloc o).heap[w.heap.size]? = some o := by unfold World.alloc; simp
theorem old_alloc (w : World) (o : Obj) {i : Nat} (h : i < w.heap.size) : (w.alloc o).heap[i]? = w.heap[i]? := Below.heap_alloc w o i h

/-- A block of cells behind a store into it. -/
theorem block_setCell {w : World} {b : Nat} {xs : Array Value} {t : TypeId} (h : w.heap[b]? = some (.cells xs t (0, 0))) (off : Nat) (u : Value) : (w.setCell ⟨b, off, none⟩ u).heap[b]? = some (.cells (xs.setIfInBounds off u) t (0, 0)) := by
  have hlt : b < w.heap.size := lt_of_block h
  have h' : w.heap[b] = .cells xs t (0, 0) := by simpa [Array.getElem?_eq_getElem hlt] using h
  show (w.heap.modify b _)[b]? = _
  rw [Array.getElem?_eq_getElem (by simpa using hlt), Array.getElem_modify_self, h']
  rfl
theorem cell_block {w : World} {b : Nat} {xs : Array Value} {t : TypeId} {fz : Nat × Nat} (h : w.heap[b]? = some (.cells xs t fz)) (off : Nat) : w.cell? ⟨b, off, none⟩ = xs[off]? := by simp [World.cell?, h]
theorem free_block {w : World} {b : Nat} {xs : Array Value} {t : TypeId} (h : w.heap[b]? = some (.cells xs t (0, 0))) (off : Nat) : w.frozen? ⟨b, off, none⟩ = false := by simp [World.frozen?, h]

theorem lt_of_cell {w : World} {a : Addr} {v : Value} (h : w.cell? a = some v) : a.block < w.heap.size := by
  unfold World.cell? at h
  split at h
  · rename_i c t fz hb
    exact lt_of_block hb
  · cases h
theorem cell_al {w : World} {a : Addr} {v : Value} (h : w.cell? a = some v) (o : Obj) : (w.alloc o).cell? a = some v := (World.cell?_of_block (w := w) (old_alloc w o (lt_of_cell h))).trans h
theorem keep_far {S T : Nat → Prop} {W W' W'' : World} (h : Keep S W W') (k : Keep T W' W'') (hT : ∀ i, T i → W.heap.size ≤ i) : Keep S W W'' :=
  ⟨k.os.trans h.os, k.tape.trans h.tape, k.output.trans h.output, Nat.le_trans h.size k.size, fun i hi hS => (k.block i (Nat.lt_of_lt_of_le hi h.size) (fun e => by have := hT i e; omega)).trans (h.block i hi hS)⟩

end Go.Proofs.YbulkcxduDoor
