import Derived.Test.YbulkcxceKeep
import Derived.WalkLawsBesides
import Derived.WalkSpells
import Derived.Outline
namespace Go.Proofs.Ybulkcxce.Marks
open Go Go.Maps Go.RowKit
set_option linter.unusedVariables false

def pd (p n : Int) : Value := .agg #[.int .u32 p, .int .u64 n]
def kS (s : ByteArray) : Lit := .string s.data.toList

def sto (B : Nat) (sev : Value) : Array Value := #[.slice (some ⟨B, 0, none⟩) 1 1, .map none, .map none, .map (some (B + 1)), sev, .int .i64 7]

/-- The store's two blocks of cells. -/
structure Sto (W : World) (B : Nat) (sev : Value) : Prop where
  nm : W.heap[B]? = some (.cells #[.string ⟨#[97]⟩] 9 (0, 0))
  st : W.heap[B + 2]? = some (.cells (sto B sev) 67 (0, 0))

theorem Sto.lt {W : World} {B : Nat} {sev : Value} (h : Sto W B sev) : B + 2 < W.heap.size := lt_of_block h.st
theorem Sto.kept {W W' : World} {B : Nat} {sev : Value} {S : Nat → Prop} (h : Sto W B sev) (k : Keep S W W') (h0 : ¬ S B) (h2 : ¬ S (B + 2)) : Sto W' B sev :=
  ⟨(k.block B (by have := h.lt; omega) h0).trans h.nm, (k.block (B + 2) h.lt h2).trans h.st⟩
theorem Sto.c {W : World} {B : Nat} {sev : Value} (h : Sto W B sev) (i : Nat) : W.cell? ⟨B + 2, i, none⟩ = (sto B sev)[i]? := cell_block h.st i
theorem Sto.free {W : World} {B : Nat} {sev : Value} (h : Sto W B sev) (i : Nat) : W.frozen? ⟨B + 2, i, none⟩ = false := free_block h.st i


set_option maxRecDepth 100000 in
set_option maxHeartbeats 400000 in
theorem idx_some (B bv nU nV : Nat) (DU DV : DataW Value) (h : ByteArray) (n : Int) (W : World) (hS : Sto W B (.map (some bv))) (hU : Mp W 9 (B + 1) nU DU) (hV : Mp W 9 bv nV DV) (hne : bv ≠ B + 1) (hh : h.size ≤ maxLen) (hnU : nU ≤ 2000) (hnV : nV ≤ 2000) :
    Calls Yba.prog 12 #[.pointer (some ⟨B + 2, 0, none⟩), .string h, .int .i64 n] W fun e W' => e = .returned (.map (some W.heap.size)) ∧
      Mp W' 9 (B + 1) (nU + 1) (DU.put (kS h) (.held (pd 4294967295 0))) ∧ Mp W' 9 bv (nV + 1) (DV.put (kS h) (.held (.map (some W.heap.size)))) ∧ Mp W' 70 W.heap.size 0 (.map []) ∧
      Keep (fun i => i = B + 1 ∨ i = bv) W W' ∧ W'.heap.size = W.heap.size + 1 := by
  have hm2 := run_makeMap_room Yba.underlying72 .i64 n
  have hq := fun (w : World) (r : Option Nat) => run_eql_map_nil (P := Yba.prog) w 65 9 72 r Yba.underlying65
  have c3 := hS.c 3
  have c4 := hS.c 4
  simp [sto] at c3 c4
  have hkey := keyS hh
  go_enter Yba.func12, Yba.ntmps12
  have hlt := hS.lt
  have hV1 := hV.alloc (.map #[] 0)
  have hb1 := hV.lt
  have hbS := hV.ne_cells hS.st
  go_wp2_with (at_mapUpdate; refine wpList_put _ rfl _ _ _ 65 rfl 9 72 lawS Yba.underlying65 _ _ _ rfl hV1 (by unfold maxLen; omega) _ _ _ rfl rfl hkey ?_)
  intro w1 hM1 hg1 hz1
  have d3 : w1.cell? ⟨B + 2, 3, none⟩ = some (.map (some (B + 1))) := (grown_cell hg1 (show B + 2 < _ by simp; omega) (by simpa using hbS.symm)).trans ((World.cell?_of_block (w := W) (old_alloc W _ hlt)).trans c3)
  have hU1 := (hU.alloc (.map #[] 0)).kept hg1 (by simpa using hne.symm)
  clear hV1 c3 c4
  go_wp2_with (at_mapUpdate; refine wpList_put _ rfl _ _ _ 62 rfl 9 70 lawS Yba.underlying62 _ _ _ rfl hU1 (by unfold maxLen; omega) _ _ _ rfl rfl hkey ?_)
  intro w2 hM2 hg2 hz2
  go_wp2
  go_ret
  refine ⟨rfl, hM2, hM1.kept hg2 (by simpa using hne), (((Mp_made W 70).kept hg1 (by simp; omega)).kept hg2 (by have := hU.lt; simp; omega)), (((Keep.refl _ _).alloc _).grown hg1 (fun j hj _ => Or.inr (by simpa using hj.symm))).grown hg2 (fun j hj _ => Or.inl (by simpa using hj.symm)), hz2⟩


set_option maxRecDepth 100000 in
set_option maxHeartbeats 400000 in
theorem idx_nil (B nU : Nat) (DU : DataW Value) (h : ByteArray) (n : Int) (W : World) (hS : Sto W B (.map none)) (hU : Mp W 9 (B + 1) nU DU) (hh : h.size ≤ maxLen) (hnU : nU ≤ 2000) :
    Calls Yba.prog 12 #[.pointer (some ⟨B + 2, 0, none⟩), .string h, .int .i64 n] W fun e W' => e = .returned (.map (some (W.heap.size + 1))) ∧
      Sto W' B (.map (some W.heap.size)) ∧
      Mp W' 9 (B + 1) (nU + 1) (DU.put (kS h) (.held (pd 4294967295 0))) ∧ Mp W' 9 W.heap.size 1 ((DataW.map []).put (kS h) (.held (.map (some (W.heap.size + 1))))) ∧ Mp W' 70 (W.heap.size + 1) 0 (.map []) ∧
      Keep (fun i => i = B + 1 ∨ i = B + 2) W W' ∧ W'.heap.size = W.heap.size + 2 := by
  have hmm := @run_makeMap Yba.prog
  have hm2 := run_makeMap_room Yba.underlying72 .i64 n
  have hq := fun (w : World) (r : Option Nat) => run_eql_map_nil (P := Yba.prog) w 65 9 72 r Yba.underlying65
  have c3 := hS.c 3
  have c4 := hS.c 4
  have f4 := hS.free 4
  simp [sto] at c3 c4
  have hkey := keyS hh
  have hlt := hS.lt
  have eS : ∀ (a : Addr) (u : Value), (W.setCell a u).heap.size = W.heap.size := fun a u => by simp
  obtain ⟨X, hX⟩ : ∃ X, X = ((W.setCell ⟨B + 2, 4, none⟩ (.map (some W.heap.size))).alloc (.map #[] 0)).alloc (.map #[] 0) := ⟨_, rfl⟩
  have zX : X.heap.size = W.heap.size + 2 := by subst hX; simp
  have hV1 : Mp X 9 W.heap.size 0 (.map []) := by
    have := (Mp_made (W.setCell ⟨B + 2, 4, none⟩ (.map (some W.heap.size))) 9).alloc (.map #[] 0)
    rw [eS] at this
    subst hX
    exact this
  have hD1 : Mp X 70 (W.heap.size + 1) 0 (.map []) := by
    have := Mp_made ((W.setCell ⟨B + 2, 4, none⟩ (.map (some W.heap.size))).alloc (.map #[] 0)) 70
    rw [show ((W.setCell ⟨B + 2, 4, none⟩ (.map (some W.heap.size))).alloc (.map #[] 0)).heap.size = W.heap.size + 1 by simp] at this
    subst hX
    exact this
  have kX : Keep (fun i => i = B + 2) W X := by
    subst hX
    exact (((Keep.refl (fun i => i = B + 2) _).setCell (p := ⟨B + 2, 4, none⟩) (fun _ => rfl) _).alloc _).alloc _
  have sX : Sto X B (.map (some W.heap.size)) := by
    refine ⟨(kX.block B (by omega) (by omega)).trans hS.nm, ?_⟩
    subst hX
    rw [old_alloc _ _ (by simp; omega), old_alloc _ _ (by simp; omega), block_setCell hS.st]
    rfl
  have hU1 : Mp X 9 (B + 1) nU DU := Mp.keep hU kX (by omega)
  have HX : Hid (X = ((W.setCell ⟨B + 2, 4, none⟩ (.map (some W.heap.size))).alloc (.map #[] 0)).alloc (.map #[] 0)) := hX
  clear hX
  go_enter Yba.func12, Yba.ntmps12
  go_wp2_with (at_mapUpdate; rw [← HX.out]; refine wpList_put _ rfl _ _ _ 65 rfl 9 72 lawS Yba.underlying65 _ _ _ rfl hV1 (by unfold maxLen; omega) _ _ _ rfl rfl hkey ?_)
  intro w1 hM1 hg1 hz1
  have s1 : Sto w1 B (.map (some W.heap.size)) := sX.kept ((Keep.refl (fun i => i = W.heap.size) _).grown hg1 (fun j hj _ => by simpa using hj.symm)) (by omega) (by omega)
  have d3 := s1.c 3
  simp [sto] at d3
  have hU2 := hU1.kept hg1 (by simp; omega)
  clear hV1 c3 c4
  go_wp2_with (at_mapUpdate; refine wpList_put _ rfl _ _ _ 62 rfl 9 70 lawS Yba.underlying62 _ _ _ rfl hU2 (by unfold maxLen; omega) _ _ _ rfl rfl hkey ?_)
  intro w2 hM2 hg2 hz2
  go_wp2
  go_ret
  have k2 : Keep (fun i => i = B + 1 ∨ i = B + 2) W w2 := ((kX.mono (fun i _ h => Or.inr h)).grown hg1 (fun j hj hlt => by simp at hj; omega)).grown hg2 (fun j hj _ => Or.inl (by simpa using hj.symm))
  refine ⟨rfl, s1.kept ((Keep.refl (fun i => i = B + 1) _).grown hg2 (fun j hj _ => by simpa using hj.symm)) (by omega) (by omega), hM2, hM1.kept hg2 (by simp; omega), (hD1.kept hg1 (by simp)).kept hg2 (by simp; omega), k2, hz2⟩

end Go.Proofs.Ybulkcxce.Marks
