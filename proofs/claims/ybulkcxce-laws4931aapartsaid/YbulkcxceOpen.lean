import Derived.Test.YbulkcxceCtxB
import Derived.Deep.SlicePairs
namespace Go.Proofs.Ybulkcxce.Ctx
open Go Go.Maps Go.RowKit
set_option linter.unusedVariables false

theorem spot_none {w : World} {x : Addr} {v : Value} (h : w.cell? x = some v) : x = ⟨x.block, x.off, none⟩ ∧ x.block < w.heap.size := by
  obtain ⟨b, off, spot⟩ := x
  unfold World.cell? at h
  split at h
  · rename_i c t fz hb
    refine ⟨?_, lt_of_block hb⟩
    cases spot
    · rfl
    · simp at h
  · cases h

theorem add_none {x : Addr} (e : x = ⟨x.block, x.off, none⟩) (i : Nat) : x.add i = ⟨x.block, x.off + i, none⟩ := by
  unfold Addr.add
  split
  · rename_i hi0
    rw [hi0]
    exact e
  · rfl

/-- A slice of pairs that came in, as plain facts. -/
theorem pairs_in {H : Type} {enc : TypeId × Value → H} {W : World} {base : Nat} {sp : Nat → Bool} {held : Bool} {fuel : Nat} {t e : TypeId} {f0 f1 : Field} {a : Option Addr} {n c : Nat} {x : DataW H × List MemPlace}
    (ht : Yba.prog.underlying t = some (.slice e)) (he : Yba.prog.underlying e = some (.struct #[f0, f1]))
    (ce : Yba.prog.cellsOf e = 2) (o0 : f0.offset = 0) (o1 : f1.offset = 1) (c0 : Yba.prog.cellsOf f0.type = 1) (c1 : Yba.prog.cellsOf f1.type = 1)
    (h : DataW.trod enc Yba.prog W base sp held fuel t [.slice a n c] = some x) :
    ∃ (b off m : Nat) (V0 V1 : Nat → Value) (D0 D1 : Nat → DataW H × List MemPlace), (0 < n → a = some ⟨b, off, none⟩) ∧ (0 < n → b < W.heap.size) ∧ 
      ∀ i, i < n → W.cell? ⟨b, off + i * 2, none⟩ = some (V0 i) ∧ W.cell? ⟨b, off + i * 2 + 1, none⟩ = some (V1 i) ∧
        DataW.trod enc Yba.prog W base sp held m f0.type [V0 i] = some (D0 i) ∧ DataW.trod enc Yba.prog W base sp held m f1.type [V1 i] = some (D1 i) := by
  rcases Go.Deep.open_slice_pairs ht he ce o0 o1 c0 c1 h with ⟨hcs, _⟩ | ⟨a, len, cap, m, k, V0, V1, D0, D1, P0, P1, hcs, _, hl, _, hm, _, hc⟩
  · simp at hcs
    obtain ⟨rfl, rfl, rfl⟩ := hcs
    exact ⟨0, 0, 0, fun _ => default, fun _ => default, fun _ => (.nil, []), fun _ => (.nil, []), fun h => absurd h (by omega), fun h => absurd h (by omega), fun i h => absurd h (by omega)⟩
  · simp at hcs
    obtain ⟨rfl, rfl, rfl⟩ := hcs
    have hnm : n ≤ m := by rw [hm]; split <;> omega
    refine ⟨a.block, a.off, k, V0, V1, fun i => (D0 i, P0 i), fun i => (D1 i, P1 i), fun h0 => ?_, fun h0 => ?_, fun i hi => ?_⟩
    · exact congrArg some (spot_none (by simpa [Addr.add] using (hc 0 (by omega)).1)).1
    · exact (spot_none (by simpa [Addr.add] using (hc 0 (by omega)).1)).2
    · have e0 := (spot_none (by simpa [Addr.add] using (hc 0 (by omega)).1)).1
      obtain ⟨g0, g1, g2, g3⟩ := hc i (by omega)
      rw [add_none e0] at g0 g1
      exact ⟨g0, g1, g2, g3⟩

variable {H : Type} {enc : TypeId × Value → H} {W : World} {base : Nat} {sp : Nat → Bool} {held : Bool} {fuel : Nat} {a : Option Addr} {n c : Nat} {x : DataW H × List MemPlace}

theorem vv_in (h : DataW.trod enc Yba.prog W base sp held fuel 22 [.slice a n c] = some x) : ∃ nm nn b off, VVin W a n nm nn b off := by
  obtain ⟨b, off, m, V0, V1, D0, D1, ha, hb, hc⟩ := pairs_in Yba.underlying22 Yba.underlying34 (by kernel_rfl) rfl rfl (by kernel_rfl) (by kernel_rfl) h
  have e0 : ∀ i, i < n → ∃ s : ByteArray, V0 i = .string s ∧ s.size ≤ maxLen := fun i hi => by
    obtain ⟨s, hs, _, hz⟩ := DataW.trod_string Yba.underlying9 (hc i hi).2.2.1
    exact ⟨s, by simpa using hs, hz⟩
  have e1 : ∀ i, i < n → ∃ s : Int, V1 i = .int .u64 s := fun i hi => by
    obtain ⟨s, hs, _, hz⟩ := DataW.trod_int Yba.underlying32 (hc i hi).2.2.2
    exact ⟨s, by simpa using hs⟩
  obtain ⟨nm, h0⟩ := Go.Deep.choose_lt e0
  obtain ⟨nn, h1⟩ := Go.Deep.choose_lt e1
  exact ⟨nm, nn, b, off, ha, hb, fun i hi => by rw [← (h0 i hi).1]; exact (hc i hi).1, fun i hi => by rw [← h1 i hi]; exact (hc i hi).2.1, fun i hi => (h0 i hi).2⟩

theorem runs_in (h : DataW.trod enc Yba.prog W base sp held fuel 36 [.slice a n c] = some x) :
    ∃ (rs : List (Int × Int)) (b off : Nat), rs.length = n ∧ (0 < n → a = some ⟨b, off, none⟩ ∧ b < W.heap.size) ∧ (∀ j, j < n → W.cell? ⟨b, off + j * 2, none⟩ = some (.int .u64 (lo rs j))) ∧ ∀ j, j < n → W.cell? ⟨b, off + j * 2 + 1, none⟩ = some (.int .u64 (hi rs j)) := by
  obtain ⟨b, off, m, V0, V1, D0, D1, ha, hb, hc⟩ := pairs_in Yba.underlying36 Yba.underlying78 (by kernel_rfl) rfl rfl (by kernel_rfl) (by kernel_rfl) h
  have e1 : ∀ i, i < n → ∃ s : Int × Int, V0 i = .int .u64 s.1 ∧ V1 i = .int .u64 s.2 := fun i hi => by
    obtain ⟨s, hs, _, hz⟩ := DataW.trod_int Yba.underlying32 (hc i hi).2.2.1
    obtain ⟨s', hs', _, hz'⟩ := DataW.trod_int Yba.underlying32 (hc i hi).2.2.2
    exact ⟨(s, s'), by simpa using hs, by simpa using hs'⟩
  obtain ⟨f, hf⟩ := Go.Deep.choose_lt e1
  have at_ : ∀ j, j < n → ((List.range n).map f)[j]? = some (f j) := fun j hj => by simp [hj]
  refine ⟨(List.range n).map f, b, off, by simp, fun h0 => ⟨ha h0, hb h0⟩, fun j hj => ?_, fun j hj => ?_⟩
  · have : lo ((List.range n).map f) j = (f j).1 := by unfold lo; rw [List.getD_eq_getElem?_getD, at_ j hj]; rfl
    rw [this, ← (hf j hj).1]; exact (hc j hj).1
  · have : hi ((List.range n).map f) j = (f j).2 := by unfold hi; rw [List.getD_eq_getElem?_getD, at_ j hj]; rfl
    rw [this, ← (hf j hj).2]; exact (hc j hj).2.1

theorem cl_in (h : DataW.trod enc Yba.prog W base sp held fuel 23 [.slice a n c] = some x) : ∃ cm ra rc rs b off rb ro, CLin W a n cm ra rc rs b off rb ro := by
  obtain ⟨b, off, m, V0, V1, D0, D1, ha, hb, hc⟩ := pairs_in Yba.underlying23 Yba.underlying38 (by kernel_rfl) rfl rfl (by kernel_rfl) (by kernel_rfl) h
  have e0 : ∀ i, i < n → ∃ s : ByteArray, V0 i = .string s ∧ s.size ≤ maxLen := fun i hi => by
    obtain ⟨s, hs, _, hz⟩ := DataW.trod_string Yba.underlying9 (hc i hi).2.2.1
    exact ⟨s, by simpa using hs, hz⟩
  have e1 : ∀ i, i < n → ∃ s : Option Addr × Nat × List (Int × Int) × Nat × Nat, V1 i = .slice s.1 s.2.2.1.length s.2.1 ∧ (0 < s.2.2.1.length → s.1 = some ⟨s.2.2.2.1, s.2.2.2.2, none⟩ ∧ s.2.2.2.1 < W.heap.size) ∧
      (∀ j, j < s.2.2.1.length → W.cell? ⟨s.2.2.2.1, s.2.2.2.2 + j * 2, none⟩ = some (.int .u64 (lo s.2.2.1 j))) ∧ ∀ j, j < s.2.2.1.length → W.cell? ⟨s.2.2.2.1, s.2.2.2.2 + j * 2 + 1, none⟩ = some (.int .u64 (hi s.2.2.1 j)) := fun i hi => by
    have ht := (hc i hi).2.2.2
    obtain ⟨a', n', c', hv⟩ : ∃ a' n' c', V1 i = .slice a' n' c' := by
      rcases Go.Deep.open_slice Yba.underlying36 ht with ⟨hcs, _⟩ | ⟨a, len, cap, _, _, _, _, hcs, _⟩
      · exact ⟨none, 0, 0, by simpa using hcs⟩
      · exact ⟨some a, len, cap, by simpa using hcs⟩
    rw [hv] at ht
    obtain ⟨rs, b', off', rfl, h1, h2, h3⟩ := runs_in ht
    exact ⟨(a', c', rs, b', off'), hv, h1, h2, h3⟩
  obtain ⟨cm, h0⟩ := Go.Deep.choose_lt e0
  obtain ⟨f, h1⟩ := Go.Deep.choose_lt e1
  exact ⟨cm, fun i => (f i).1, fun i => (f i).2.1, fun i => (f i).2.2.1, b, off, fun i => (f i).2.2.2.1, fun i => (f i).2.2.2.2, ha, hb, fun i hi => by rw [← (h0 i hi).1]; exact (hc i hi).1, fun i hi => by rw [← (h1 i hi).1]; exact (hc i hi).2.1, fun i hi => (h0 i hi).2,
    fun i hi h => (h1 i hi).2.1 h, fun i hi j hj => (h1 i hi).2.2.1 j hj, fun i hi j hj => (h1 i hi).2.2.2 j hj⟩

end Go.Proofs.Ybulkcxce.Ctx
