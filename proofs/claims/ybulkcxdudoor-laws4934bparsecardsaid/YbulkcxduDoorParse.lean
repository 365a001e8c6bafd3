import Derived.Test.YbulkcxduDoorKey
import Derived.Deep.RegionWith
namespace Go.Proofs.YbulkcxduDoor
open Go Go.RowKit
set_option linter.unusedVariables false

theorem zero38 : ∃ xs : Array Value, (∀ w, (zeroValue 38).run Ybad.prog w = .ok (.agg xs) w) ∧ xs.size = 216 :=
  ⟨match Ybad.prog.info? 38 with | some i => (match i.zero with | some (.agg xs) => xs | _ => #[]) | none => #[], fun w => by kernel_rfl, by kernel_rfl⟩

def fnv (n : Nat) : Value := .func (.func 11) #[] #[.pointer (some ⟨n + 1, 0, none⟩), .pointer (some ⟨n, 0, none⟩)]

/-- Ahead of the call of parse: what stands above w. -/
structure Bef (w X : World) (R0 R1 fv : Nat) (sel : Bool) (start nst : Int) : Prop where
  sel : X.heap[w.heap.size]? = some (.cells #[.bool sel] 4 (0, 0))
  calls : X.heap[w.heap.size + 1]? = some (.cells #[.int .i64 0] 3 (0, 0))
  fvc : X.cell? ⟨fv, 0, none⟩ = some (fnv w.heap.size)
  inf : X.cell? ⟨R0, 3, none⟩ = some (.func (.func 16) #[] #[.pointer (some ⟨fv, 0, none⟩)])
  ent : ∃ ys, X.heap[R1]? = some (.cells ys 38 (0, 0)) ∧ 5 < ys.size ∧ ys[4]? = some (.int .u32 start) ∧ ys[5]? = some (.int .u32 nst)
  keep : Keep (fun _ => False) w X
  big : w.heap.size + 2 ≤ X.heap.size
  far : w.heap.size ≤ R1

theorem Bef.step {w X X' : World} {R0 R1 fv : Nat} {sel : Bool} {start nst : Int} (h : Bef w X R0 R1 fv sel start nst) (k : Keep (fun _ => False) X X') : Bef w X' R0 R1 fv sel start nst := by
  obtain ⟨ys, e1, e2⟩ := h.ent
  exact ⟨(k.block _ (lt_of_block h.sel) (fun e => e)).trans h.sel, (k.block _ (lt_of_block h.calls) (fun e => e)).trans h.calls, (k.cell (lt_of_cell h.fvc) (fun e => e)).trans h.fvc, (k.cell (lt_of_cell h.inf) (fun e => e)).trans h.inf,
    ⟨ys, (k.block _ (lt_of_block e1) (fun e => e)).trans e1, e2⟩, h.keep.trans k, Nat.le_trans h.big k.size, h.far⟩

/-- Behind it. -/
structure Aft (w wr : World) (R1 : Nat) (sel : Bool) (start nst v : Int) : Prop where
  selc : wr.cell? ⟨w.heap.size, 0, none⟩ = some (.bool sel)
  calls : wr.cell? ⟨w.heap.size + 1, 0, none⟩ = some (.int .i64 1)
  uid : wr.cell? ⟨R1, 4, none⟩ = some (.int .u32 (if sel then start else v))
  gid : wr.cell? ⟨R1, 5, none⟩ = some (.int .u32 (if sel then v else nst))
  keep : Keep (fun _ => False) w wr

theorem Bef.after {w X : World} {R0 R1 fv : Nat} {sel : Bool} {start nst v : Int} (h : Bef w X R0 R1 fv sel start nst) (Y : World) (hY : Y = (X.setCell ⟨w.heap.size + 1, 0, none⟩ (.int .i64 1)).setCell ⟨R1, if sel then 5 else 4, none⟩ (.int .u32 v)) : Aft w Y R1 sel start nst v := by
  obtain ⟨ys, e1, e2, e3, e4⟩ := h.ent
  have n1 : R1 ≠ w.heap.size := fun e => by have := h.sel; rw [← e, e1] at this; simp at this
  have n2 : R1 ≠ w.heap.size + 1 := fun e => by have := h.calls; rw [← e, e1] at this; simp at this
  have b1 : (X.setCell ⟨w.heap.size + 1, 0, none⟩ (.int .i64 1)).heap[R1]? = some (.cells ys 38 (0, 0)) := (Below.heap_setCell X ⟨w.heap.size + 1, 0, none⟩ _ R1 n2).trans e1
  have b2 : (X.setCell ⟨w.heap.size + 1, 0, none⟩ (.int .i64 1)).heap[w.heap.size + 1]? = _ := block_setCell h.calls 0 (.int .i64 1)
  have b3 : (X.setCell ⟨w.heap.size + 1, 0, none⟩ (.int .i64 1)).heap[w.heap.size]? = some (.cells #[.bool sel] 4 (0, 0)) := (Below.heap_setCell X ⟨w.heap.size + 1, 0, none⟩ _ w.heap.size (by show w.heap.size ≠ w.heap.size + 1; omega)).trans h.sel
  have c1 := block_setCell b1 (if sel then 5 else 4) (.int .u32 v)
  have c2 : Y.heap[w.heap.size + 1]? = some (.cells #[.int .i64 1] 3 (0, 0)) := by rw [hY, Below.heap_setCell _ ⟨R1, if sel then 5 else 4, none⟩ _ _ (Ne.symm n2), b2]; rfl
  have c3 : Y.heap[w.heap.size]? = some (.cells #[.bool sel] 4 (0, 0)) := by rw [hY, Below.heap_setCell _ ⟨R1, if sel then 5 else 4, none⟩ _ _ (Ne.symm n1), b3]
  rw [← hY] at c1
  refine ⟨cell_block c3 0, cell_block c2 0, ?_, ?_, ?_⟩
  · rw [cell_block c1 4]
    cases sel
    · simp [show 4 < ys.size by omega]
    · simpa using e3
  · rw [cell_block c1 5]
    cases sel
    · simpa using e4
    · simp [show 5 < ys.size by omega]
  · subst hY
    have k1 := h.keep.setCell (p := ⟨w.heap.size + 1, 0, none⟩) (fun e => by simp at e; omega) (.int .i64 1)
    exact k1.setCell (p := ⟨R1, if sel then 5 else 4, none⟩) (fun e => by have := h.far; simp at e; omega) (.int .u32 v)

theorem bef_start {w w1 : World} {fv : Nat} {sel : Bool} {start nst : Int} {xs ks : Array Value} (k1 : Keep (fun _ => False) ((w.alloc (.cells #[.bool sel] 4)).alloc (.cells #[.int .i64 0] 3)) w1) (hfv : w1.cell? ⟨fv, 0, none⟩ = some (fnv w.heap.size))
    (hks : ks[3]? = some (.func (.func 16) #[] #[.pointer (some ⟨fv, 0, none⟩)])) (hxs : xs.size = 216) (X : World) (hX : X = (w1.alloc (.cells ks 45)).alloc (.cells ((xs.setIfInBounds 4 (.int .u32 start)).setIfInBounds 5 (.int .u32 nst)) 38)) :
    Bef w X w1.heap.size (w1.heap.size + 1) fv sel start nst := by
  subst hX
  have hw1 : w.heap.size + 2 ≤ w1.heap.size := by have := k1.size; simpa using this
  have z1 : ∀ (v : World) o, (v.alloc o).heap.size = v.heap.size + 1 := fun v o => by simp
  have s0 : w1.heap[w.heap.size]? = some (.cells #[.bool sel] 4 (0, 0)) := (k1.block _ (by rw [z1, z1]; omega) (fun e => e)).trans ((old_alloc _ _ (by rw [z1]; omega)).trans (at_alloc w _))
  have s1 : w1.heap[w.heap.size + 1]? = some (.cells #[.int .i64 0] 3 (0, 0)) := by
    have := at_alloc (w.alloc (.cells #[.bool sel] 4)) (.cells #[.int .i64 0] 3)
    rw [z1] at this
    exact (k1.block _ (by rw [z1, z1]; omega) (fun e => e)).trans this
  have e1 := at_alloc w1 (.cells ks 45)
  have e2 := at_alloc (w1.alloc (.cells ks 45)) (.cells ((xs.setIfInBounds 4 (.int .u32 start)).setIfInBounds 5 (.int .u32 nst)) 38)
  rw [z1] at e2
  refine ⟨(old_alloc _ _ (by rw [z1]; omega)).trans ((old_alloc _ _ (by omega)).trans s0), (old_alloc _ _ (by rw [z1]; omega)).trans ((old_alloc _ _ (by omega)).trans s1), cell_al (cell_al hfv _) _, cell_al ((cell_block e1 3).trans hks) _, ⟨_, e2, ?_, ?_, ?_⟩, ?_, ?_, by omega⟩
  · simp [hxs]
  · simp [hxs]
  · simp [hxs]
  · exact ((keep_far (((Keep.refl (fun _ => False) w).alloc _).alloc _) k1 (fun _ e => e.elim)).alloc _).alloc _
  · rw [z1, z1]; omega

set_option maxRecDepth 100000 in
set_option maxHeartbeats 400000 in
theorem parse_small (w : World) (a : Option Addr) (zs : List Int) (c b off : Nat) (sel : Bool) (start : Int) (hB : By w a zs b off) (hn : zs.length ≤ 1024) (hnil : a = none → zs.length = 0 ∧ c = 0) (hs0 : 0 ≤ start) (hs1 : start ≤ 4294967295) :
    Calls Ybad.prog 4 #[.slice a zs.length c, .bool sel, .int .u32 start] w fun e w' => e = .returned (.bool true) ∧ Below w.heap.size w w' := by
  obtain ⟨xs, hz38, hxs⟩ := zero38
  have hn' : (zs.length : Int) ≤ 1024 := by omega
  rcases Bool.eq_false_or_eq_true sel with hsel | hsel
  all_goals
    go_enter Ybad.func4, Ybad.ntmps4
    go_wp2_with (go_at_call 7; refine (idKey _ 4 ⟨#[103, 105, 100]⟩ (.func 11) #[] #[.pointer (some ⟨w.heap.size + 1, 0, none⟩), .pointer (some ⟨w.heap.size, 0, none⟩)]).mono ?_)
    rintro e w1 ⟨fv, rfl, hfv, k1⟩
    unfold keyCells form
    go_wp2_with fail
    generalize hX : (w1.alloc (.cells _ 45)).alloc (.cells _ 38) = X
    have hBef : Bef w X w1.heap.size (w1.heap.size + 1) fv sel start (bits BinOp.xor IntKind.u32 IntKind.u32.max start) := by
      rw [hsel]
      exact bef_start k1 hfv rfl hxs _ hX.symm
    clear hX hfv k1 hz38
    generalize hnst : bits BinOp.xor IntKind.u32 IntKind.u32.max start = nst at *
    generalize w1.heap.size = R0 at *
    go_cut [11] from 25 to 29 (fun s11 wx => s11 = .bool (okay zs) ∧ Aft w wx (R0 + 1) sel start nst (val zs))
    case first =>
      have q1 : X.drew.cell? ⟨R0, 3, none⟩ = some (.func (.func 16) #[] #[.pointer (some ⟨fv, 0, none⟩)]) := hBef.inf
      have hBd := hB.keep hBef.keep.drew
      have kd : Keep (fun _ => False) X X.drew := (Keep.refl _ _).drew
      go_region_with (first
        | (go_at_call 8; refine (clone _ a zs c b off hBd hn hnil).mono ?_; rintro e w2 ⟨v, rfl, hv, k2⟩; obtain ⟨a', c', b', rfl, hBy⟩ := By.own hv hB.rng; have hB2 := hBef.step (kd.trans k2); have q2 := hB2.inf)
        | (go_at_call 16; obtain ⟨ys, e1, e2, e3, e4⟩ := hB2.ent; refine (parse16 _ (R0 + 1) fv (w.heap.size + 1) w.heap.size 0 sel ys a' zs c' b' 0 hBy hn hB2.fvc e1 e2 hB2.calls (cell_block hB2.sel 0) (by omega) (by omega) (by omega)).mono ?_; rintro e w3 ⟨rfl, hw3⟩))
      all_goals
        subst hsel
        go_wp2
        go_meet
        case rel => exact ⟨rfl, hB2.after _ rfl⟩
    case rest =>
      obtain ⟨rfl, hA⟩ := hcut
      have hBc := hB.keep hA.keep
      have p1 := hA.selc
      have p2 := hA.calls
      have p3 := hA.uid
      have p4 := hA.gid
      go_wp2_with (go_at_call 12; refine (model _ a zs c b off hBc hn).mono ?_)
      rintro e w2 ⟨rfl, rfl⟩
      rw [hsel] at p1 p3 p4
      simp only [if_true, if_false, Bool.false_eq_true] at p3 p4
      have hkA := hA.keep
      go_wp2
      go_ret
      exact ⟨rfl, hkA.below (fun _ e => e.elim) (Nat.le_refl _)⟩

end Go.Proofs.YbulkcxduDoor
