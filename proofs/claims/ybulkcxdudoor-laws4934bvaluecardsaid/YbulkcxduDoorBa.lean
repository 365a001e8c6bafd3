import Derived.Test.YbulkcxduDoorDig
import Derived.Deep.RegionWith
namespace Go.Proofs.YbulkcxduDoor
open Go Go.RowKit
set_option linter.unusedVariables false

theorem zero38 : ∃ xs : Array Value, (∀ w, (zeroValue 38).run Ybad.prog w = .ok (.agg xs) w) ∧ xs.size = 216 :=
  ⟨match Ybad.prog.info? 38 with | some i => (match i.zero with | some (.agg xs) => xs | _ => #[]) | none => #[], fun w => by kernel_rfl, by kernel_rfl⟩

def fnv6 (n : Nat) : Value := .func (.func 6) #[] #[.pointer (some ⟨n + 1, 0, none⟩), .pointer (some ⟨n, 0, none⟩)]

/-- Ahead of the call of value: what stands above w. -/
structure BefV (w X : World) (R0 R1 fv : Nat) (sel : Bool) (u nst : Int) : Prop where
  selb : X.heap[w.heap.size]? = some (.cells #[.bool sel] 4 (0, 0))
  calls : X.heap[w.heap.size + 1]? = some (.cells #[.int .i64 0] 3 (0, 0))
  fvc : X.cell? ⟨fv, 0, none⟩ = some (fnv6 w.heap.size)
  inf : X.cell? ⟨R0, 2, none⟩ = some (.func (.func 14) #[] #[.pointer (some ⟨fv, 0, none⟩)])
  ent : ∃ ys, X.heap[R1]? = some (.cells ys 38 (0, 0)) ∧ ys[4]? = some (.int .u32 (if sel then nst else u)) ∧ ys[5]? = some (.int .u32 (if sel then u else nst))
  keep : Keep (fun _ => False) w X
  big : w.heap.size + 2 ≤ X.heap.size

theorem BefV.step {w X X' : World} {R0 R1 fv : Nat} {sel : Bool} {u nst : Int} (h : BefV w X R0 R1 fv sel u nst) (k : Keep (fun _ => False) X X') : BefV w X' R0 R1 fv sel u nst := by
  obtain ⟨ys, e1, e2⟩ := h.ent
  exact ⟨(k.block _ (lt_of_block h.selb) (fun e => e)).trans h.selb, (k.block _ (lt_of_block h.calls) (fun e => e)).trans h.calls, (k.cell (lt_of_cell h.fvc) (fun e => e)).trans h.fvc, (k.cell (lt_of_cell h.inf) (fun e => e)).trans h.inf,
    ⟨ys, (k.block _ (lt_of_block e1) (fun e => e)).trans e1, e2⟩, h.keep.trans k, Nat.le_trans h.big k.size⟩

/-- Behind it. -/
structure AftV (w wr : World) (R1 : Nat) (sel : Bool) (u nst : Int) : Prop where
  selc : wr.cell? ⟨w.heap.size, 0, none⟩ = some (.bool sel)
  calls : wr.cell? ⟨w.heap.size + 1, 0, none⟩ = some (.int .i64 1)
  uid : wr.cell? ⟨R1, 4, none⟩ = some (.int .u32 (if sel then nst else u))
  gid : wr.cell? ⟨R1, 5, none⟩ = some (.int .u32 (if sel then u else nst))
  keep : Keep (fun _ => False) w wr

theorem AftV.step {w X X' : World} {R1 : Nat} {sel : Bool} {u nst : Int} (h : AftV w X R1 sel u nst) (k : Keep (fun _ => False) X X') : AftV w X' R1 sel u nst :=
  ⟨(k.cell (lt_of_cell h.selc) (fun e => e)).trans h.selc, (k.cell (lt_of_cell h.calls) (fun e => e)).trans h.calls, (k.cell (lt_of_cell h.uid) (fun e => e)).trans h.uid, (k.cell (lt_of_cell h.gid) (fun e => e)).trans h.gid, h.keep.trans k⟩

theorem BefV.n1 {w X : World} {R0 R1 fv : Nat} {sel : Bool} {u nst : Int} (h : BefV w X R0 R1 fv sel u nst) : R1 ≠ w.heap.size + 1 := fun e => by
  obtain ⟨ys, e1, _⟩ := h.ent
  have := h.calls
  rw [← e, e1] at this
  simp at this
theorem BefV.n2 {w X : World} {R0 R1 fv : Nat} {sel : Bool} {u nst : Int} (h : BefV w X R0 R1 fv sel u nst) : fv ≠ w.heap.size + 1 := fun e => by
  have := h.fvc
  rw [e, cell_block h.calls 0] at this
  simp [fnv6] at this

theorem BefV.entc {w X : World} {R0 R1 fv : Nat} {sel : Bool} {u nst : Int} (h : BefV w X R0 R1 fv sel u nst) : X.cell? ⟨R1, if sel then 5 else 4, none⟩ = some (.int .u32 u) := by
  obtain ⟨ys, e1, e4, e5⟩ := h.ent
  rw [cell_block e1]
  cases sel
  · exact e4
  · exact e5

theorem BefV.after {w X W Y : World} {R0 R1 fv : Nat} {sel : Bool} {u nst : Int} (h : BefV w X R0 R1 fv sel u nst) (k : Keep (fun _ => False) X W) (hY : Below X.heap.size (W.setCell ⟨w.heap.size + 1, 0, none⟩ (.int .i64 1)) Y) : AftV w Y R1 sel u nst := by
  have h2 := h.step k
  obtain ⟨ys, e1, e4, e5⟩ := h.ent
  have n1 := h.n1
  have o : ∀ i, i < X.heap.size → i ≠ w.heap.size + 1 → Y.heap[i]? = X.heap[i]? := fun i hi hne =>
    (hY.block i hi).trans ((Below.heap_setCell W ⟨w.heap.size + 1, 0, none⟩ _ i hne).trans (k.block i hi (fun e => e)))
  have c1 : Y.heap[R1]? = _ := (o R1 (lt_of_block e1) n1).trans e1
  have c2 : Y.heap[w.heap.size]? = _ := (o _ (lt_of_block h.selb) (by omega)).trans h.selb
  have c3 : Y.heap[w.heap.size + 1]? = _ := (hY.block _ (lt_of_block h.calls)).trans (block_setCell h2.calls 0 (.int .i64 1))
  refine ⟨cell_block c2 0, cell_block c3 0, (cell_block c1 4).trans e4, (cell_block c1 5).trans e5, ?_⟩
  have k1 := h2.keep.setCell (p := ⟨w.heap.size + 1, 0, none⟩) (fun e => by simp at e; omega) (.int .i64 1)
  have hb := h.big
  exact keep_far k1 (T := fun i => X.heap.size ≤ i) ⟨hY.os, hY.tape, hY.output, hY.size, fun i _ hi => hY.block i (by omega)⟩ (fun i e => by omega)

theorem BefV.tab {w X : World} {R0 R1 fv : Nat} {sel : Bool} {u nst : Int} (h : BefV w X R0 R1 fv sel u nst) (hT : Tab w) (v : Value) : Tab (X.setCell ⟨w.heap.size + 1, 0, none⟩ v) :=
  hT.below ((h.keep.setCell (p := ⟨w.heap.size + 1, 0, none⟩) (fun e => by simp at e; omega) v).below (fun _ e => e.elim) (Nat.le_refl _))

theorem befv_start {w w1 : World} {fv : Nat} {sel : Bool} {u nst : Int} {zs ks : Array Value} (k1 : Keep (fun _ => False) ((w.alloc (.cells #[.bool sel] 4)).alloc (.cells #[.int .i64 0] 3)) w1) (hfv : w1.cell? ⟨fv, 0, none⟩ = some (fnv6 w.heap.size))
    (hks : ks[2]? = some (.func (.func 14) #[] #[.pointer (some ⟨fv, 0, none⟩)])) (h4 : zs[4]? = some (.int .u32 (if sel then nst else u))) (h5 : zs[5]? = some (.int .u32 (if sel then u else nst))) (X : World) (hX : X = (w1.alloc (.cells ks 45)).alloc (.cells zs 38)) :
    BefV w X w1.heap.size (w1.heap.size + 1) fv sel u nst := by
  subst hX
  have hw1 : w.heap.size + 2 ≤ w1.heap.size := by have := k1.size; simpa using this
  have z1 : ∀ (v : World) o, (v.alloc o).heap.size = v.heap.size + 1 := fun v o => by simp
  have s0 : w1.heap[w.heap.size]? = some (.cells #[.bool sel] 4 (0, 0)) := (k1.block _ (by rw [z1, z1]; omega) (fun e => e)).trans ((old_alloc _ _ (by rw [z1]; omega)).trans (at_alloc w _))
  have s1 : w1.heap[w.heap.size + 1]? = some (.cells #[.int .i64 0] 3 (0, 0)) := by
    have := at_alloc (w.alloc (.cells #[.bool sel] 4)) (.cells #[.int .i64 0] 3)
    rw [z1] at this
    exact (k1.block _ (by rw [z1, z1]; omega) (fun e => e)).trans this
  have e1 := at_alloc w1 (.cells ks 45)
  have e2 := at_alloc (w1.alloc (.cells ks 45)) (.cells zs 38)
  rw [z1] at e2
  refine ⟨(old_alloc _ _ (by rw [z1]; omega)).trans ((old_alloc _ _ (by omega)).trans s0), (old_alloc _ _ (by rw [z1]; omega)).trans ((old_alloc _ _ (by omega)).trans s1), cell_al (cell_al hfv _) _, cell_al ((cell_block e1 2).trans hks) _, ⟨_, e2, h4, h5⟩, ?_, ?_⟩
  · exact ((keep_far (((Keep.refl (fun _ => False) w).alloc _).alloc _) k1 (fun _ e => e.elim)).alloc _).alloc _
  · rw [z1, z1]; omega

theorem sel_cell {w w1 : World} {sel : Bool} (k1 : Keep (fun _ => False) ((w.alloc (.cells #[.bool sel] 4)).alloc (.cells #[.int .i64 0] 3)) w1) : w1.cell? ⟨w.heap.size, 0, none⟩ = some (.bool sel) := by
  have z1 : ∀ (v : World) o, (v.alloc o).heap.size = v.heap.size + 1 := fun v o => by simp
  have s0 : w1.heap[w.heap.size]? = some (.cells #[.bool sel] 4 (0, 0)) := (k1.block _ (by rw [z1, z1]; omega) (fun e => e)).trans ((old_alloc _ _ (by rw [z1]; omega)).trans (at_alloc w _))
  exact cell_block s0 0

theorem keep_of2 {W W' W'' : World} (k : Keep (fun _ => False) W W') (h : Below W.heap.size W' W'') : Keep (fun _ => False) W W'' :=
  ⟨h.os.trans k.os, h.tape.trans k.tape, h.output.trans k.output, Nat.le_trans k.size h.size, fun i hi _ => (h.block i hi).trans (k.block i hi (fun e => e))⟩

end Go.Proofs.YbulkcxduDoor
