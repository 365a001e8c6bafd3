import Derived.Test.YbulkcxcsFmtFlat
import Derived.Deep.SlicePairs
import Derived.Deep.Slices
import Derived.ChangeSlices
namespace Go.Proofs.YbulkcxcsFmt
open Go Go.RowKit Go.ChangeShapes Go.Deep
set_option linter.unusedVariables false

theorem spot_none {w : World} {x : Addr} {v : Value} (h : w.cell? x = some v) : x = ⟨x.block, x.off, none⟩ ∧ x.block < w.heap.size := by
  obtain ⟨b, off, spot⟩ := x
  unfold World.cell? at h
  split at h
  · rename_i c t fz hb
    refine ⟨?_, lt_of_block hb⟩
    cases spot
    · rfl
    · simp at h
  · cases h

theorem add_none {x : Addr} (e : x = ⟨x.block, x.off, none⟩) (i : Nat) : x.add i = ⟨x.block, x.off + i, none⟩ := by
  unfold Addr.add
  split
  · rename_i hi0
    rw [hi0]
    exact e
  · rfl

section
variable {H : Type} {enc : TypeId × Value → H} {W : World} {base : Nat} {sp : Nat → Bool} {held : Bool}

/-- A slice of ints that came in. -/
theorem ints_in {fuel : Nat} {a : Option Addr} {n c : Nat} {x : DataW H × List MemPlace} (h : DataW.trod enc Ybaf.prog W base sp held fuel 23 [.slice a n c] = some x) :
    ∃ (xs : List Int) (b off : Nat), xs.length = n ∧ (0 < n → a = some ⟨b, off, none⟩ ∧ b < W.heap.size) ∧ ∀ (j : Nat) v, xs[j]? = some v → W.cell? ⟨b, off + j, none⟩ = some (.int .i64 v) := by
  rcases open_ints Ybaf.underlying23 Ybaf.underlying3 (by kernel_rfl) h with ⟨hcs, _⟩ | ⟨x, l, cap, zs, hcs, _, hl, hm, hz, _, hcell, _⟩
  · simp at hcs
    obtain ⟨rfl, rfl, rfl⟩ := hcs
    exact ⟨[], 0, 0, rfl, fun h => absurd h (by omega), fun j v h => by simp at h⟩
  · simp at hcs
    obtain ⟨rfl, rfl, rfl⟩ := hcs
    have hnz : n ≤ zs.length := by rw [hz]; split <;> omega
    refine ⟨zs.take n, x.block, x.off, by simp; omega, fun h0 => ?_, fun j v hj => ?_⟩
    · have := spot_none (by simpa [Addr.add] using hcell 0 (by omega))
      exact ⟨congrArg some this.1, this.2⟩
    · have hjn : j < n := by
        have := (List.getElem?_eq_some_iff.1 hj).1
        simp at this
        omega
      have e0 := (spot_none (by simpa [Addr.add] using hcell 0 (by omega))).1
      have := hcell j (by omega)
      rw [add_none e0] at this
      rw [List.getElem?_take_of_lt hjn] at hj
      rw [this, List.getD_eq_getElem?_getD, hj]
      rfl

theorem items_in {fuel : Nat} {a : Option Addr} {n c : Nat} {x : DataW H × List MemPlace} (h : DataW.trod enc Ybaf.prog W base sp held fuel 22 [.slice a n c] = some x) :
    ∃ ts b off va vc vb vo, ts.length = n ∧ ITin W a ts b off va vc vb vo := by
  rcases open_slice Ybaf.underlying22 h with ⟨hcs, _⟩ | ⟨a', len, cap, m, k, D, Pl, hcs, hb, hl, hm, hmm, _, hx⟩
  · simp at hcs
    obtain ⟨rfl, rfl, rfl⟩ := hcs
    exact ⟨[], 0, 0, fun _ => none, fun _ => 0, fun _ => 0, fun _ => 0, rfl, fun h => absurd h (by simp), fun h => absurd h (by simp), fun i t h => by simp at h, fun i t h => by simp at h, fun i t h => by simp at h, fun i t h => by simp at h, fun i t h => by simp at h⟩
  · simp at hcs
    obtain ⟨rfl, rfl, rfl⟩ := hcs
    have hnm : n ≤ m := by rw [hmm]; split <;> omega
    have ce : Ybaf.prog.cellsOf 25 = 3 := by kernel_rfl
    have c4 : Ybaf.prog.cellsOf 4 = 1 := by kernel_rfl
    have c23 : Ybaf.prog.cellsOf 23 = 1 := by kernel_rfl
    have c3 : Ybaf.prog.cellsOf 3 = 1 := by kernel_rfl
    have each : ∀ i, i < n → ∃ q : Bool × List Int × Int × Option Addr × Nat × Nat × Nat, W.cell? (a'.add (i * 3)) = some (.bool q.1) ∧ W.cell? (a'.add (i * 3 + 1)) = some (.slice q.2.2.2.1 q.2.1.length q.2.2.2.2.1) ∧ W.cell? (a'.add (i * 3 + 2)) = some (.int .i64 q.2.2.1) ∧
        (0 < q.2.1.length → q.2.2.2.1 = some ⟨q.2.2.2.2.2.1, q.2.2.2.2.2.2, none⟩ ∧ q.2.2.2.2.2.1 < W.heap.size) ∧ ∀ (j : Nat) v, q.2.1[j]? = some v → W.cell? ⟨q.2.2.2.2.2.1, q.2.2.2.2.2.2 + j, none⟩ = some (.int .i64 v) := by
      intro i hi
      obtain ⟨cs', h1, h2⟩ := hx i (by omega)
      rw [ce] at h1
      obtain ⟨_, hlen, hcell⟩ := World.cells?_some h1
      obtain ⟨xs, k', hk, hxy, _, hxl, hf⟩ := DataW.trod_struct Ybaf.underlying25 h2
      match xs, hxl, cs', hlen with
      | [y0, y1, y2], _, [v0, v1, v2], _ =>
        have g0 := hf 0 _ rfl
        have g1 := hf 1 _ rfl
        have g2 := hf 2 _ rfl
        simp [c4, c23, c3] at g0 g1 g2
        have e0 := hcell 0 (by omega)
        have e1 := hcell 1 (by omega)
        have e2 := hcell 2 (by omega)
        rw [add_add] at e0 e1 e2
        simp only [List.getElem?_cons_zero, List.getElem?_cons_succ, Nat.add_zero] at e0 e1 e2
        obtain ⟨bb, hb0, _⟩ := DataW.trod_bool Ybaf.underlying4 g0
        obtain ⟨v, hv2, _⟩ := DataW.trod_int Ybaf.underlying3 g2
        obtain ⟨va, vn, vc, hv1⟩ : ∃ a' n' c', v1 = .slice a' n' c' := by
          rcases open_slice Ybaf.underlying23 g1 with ⟨hcs, _⟩ | ⟨a, len, cap, _, _, _, _, hcs, _⟩
          · exact ⟨none, 0, 0, by simpa using hcs⟩
          · exact ⟨some a, len, cap, by simpa using hcs⟩
        simp at hb0 hv2
        subst hb0 hv2 hv1
        obtain ⟨vals, b, off, rfl, r1, r2⟩ := ints_in g1
        exact ⟨(bb, vals, v, va, vc, b, off), e0, e1, e2, r1, r2⟩
    obtain ⟨q, hq⟩ := choose_lt each
    have at_ : ∀ i t, ((List.range n).map fun i => (⟨(q i).1, (q i).2.1, (q i).2.2.1⟩ : It))[i]? = some t → i < n ∧ t = ⟨(q i).1, (q i).2.1, (q i).2.2.1⟩ := fun i t h => by
      have hi := (List.getElem?_eq_some_iff.1 h).1
      simp at hi
      simp [hi] at h
      exact ⟨hi, h.symm⟩
    have e0 : 0 < n → a' = ⟨a'.block, a'.off, none⟩ ∧ a'.block < W.heap.size := fun h0 => spot_none (by simpa [Addr.add] using (hq 0 h0).1)
    refine ⟨(List.range n).map fun i => ⟨(q i).1, (q i).2.1, (q i).2.2.1⟩, a'.block, a'.off, fun i => (q i).2.2.2.1, fun i => (q i).2.2.2.2.1, fun i => (q i).2.2.2.2.2.1, fun i => (q i).2.2.2.2.2.2, by simp, fun h0 => ?_, fun h0 => ?_, fun i t ht => ?_, fun i t ht => ?_, fun i t ht => ?_, fun i t ht => ?_, fun i t ht => ?_⟩
    · exact congrArg some (e0 (by simpa using h0)).1
    · exact (e0 (by simpa using h0)).2
    all_goals
      obtain ⟨hi, rfl⟩ := at_ i t ht
      obtain ⟨z0, z1, z2, z3, z4⟩ := hq i hi
      rw [add_none (e0 (by omega)).1] at z0 z1 z2
    · exact z0
    · exact z1
    · exact z2
    · exact z3
    · exact z4
end
end Go.Proofs.YbulkcxcsFmt
