import Derived.Test.YbulkcxduDoorVal
import Derived.Laws.BytesArg
namespace Go.Proofs.YbulkcxduDoor
open Go Go.RowKit
set_option linter.unusedVariables false

theorem byteCells_len (l : List UInt8) : (Lib.byteCells l).length = l.length := Lib.byteCells_length l


theorem hown_keep {w w' : World} {base e size n : Nat} {v : Value} {xs : List Value} {S : Nat → Prop} (h : w.ownsRow base e size v n xs) (k : Keep S w w') (hS : ∀ g cs fz, v.ownBlock = some g → w.heap[g]? = some (.cells cs e fz) → ¬ S g) : w'.ownsRow base e size v n xs := by
  obtain ⟨h1, h2⟩ := h
  refine ⟨h1, ?_⟩
  rcases h2 with h2 | ⟨g, cap, cur, rfl, hg, hb, r⟩
  · exact Or.inl h2
  · exact Or.inr ⟨g, cap, cur, rfl, hg, (k.block g (lt_of_block hb) (hS g _ _ rfl hb)).trans hb, r⟩
theorem hown_alloc {w : World} {base e size n : Nat} {v : Value} {xs : List Value} (h : w.ownsRow base e size v n xs) (o : Obj) : (w.alloc o).ownsRow base e size v n xs :=
  hown_keep h ((Keep.refl (fun _ => False) w).alloc o) (fun _ _ _ _ _ e => e)
theorem own_block {W : World} {base e size n : Nat} {v : Value} {xs : List Value} (h : W.ownsRow base e size v n xs) {g : Nat} (hg : v.ownBlock = some g) : base ≤ g ∧ g < W.heap.size := by
  obtain ⟨h1, h2⟩ := h
  rcases h2 with ⟨rfl, _⟩ | ⟨g', cap, cur, rfl, hb, hh, _⟩
  · cases hg
  · simp [Value.ownBlock] at hg
    subst hg
    exact ⟨hb, lt_of_block hh⟩

set_option maxRecDepth 100000 in
theorem dec_zero (B n : Nat) (sv : Value) (xs : List Value) (w : World) (hown : w.ownsRow B 5 1 sv n xs) (hBw : B ≤ w.heap.size) (hn : n ≤ 1024) :
    Calls Ybad.prog 9 #[sv, .int .u32 0] w fun e w' => ∃ v', e = .returned v' ∧ w'.ownsRow B 5 1 v' (n + (Lib.decDigits 0).length) (xs ++ Lib.byteCells (Lib.decDigits 0)) ∧ Below B w w' := by
  obtain ⟨i0, hi0, hz0, hz1, hz2⟩ := info5
  have e0 : Lib.decDigits 0 = [48] := by rw [Lib.decDigits_one (by omega)]; rfl
  rw [e0]
  go_enter Ybad.func9, Ybad.ntmps9
  go_wp2_with (at_builtin; refine wpList_append_own _ rfl (.tmp 9) (.tmp 10) 22 rfl B 5 i0 (.int .u8 0) 1 1 Ybad.underlying22 hi0 hz0 hz1 hz2 rfl (by omega) sv n xs rfl (hown_alloc hown _) ⟨w.heap.size, 0, none⟩ 1 1 [.int .u8 48] rfl rfl (cell_one_new _ _ _) (fun u hu => by simp at hu; subst hu; rfl) (by unfold maxLen; omega) (by omega) (by simp; omega) ?_)
  intro v' w1 hown1 hg1 _
  go_wp2
  go_ret
  refine ⟨v', rfl, hown1, ?_⟩
  have k1 : Keep (fun i => B ≤ i) w w1 := ((Keep.refl (fun i => B ≤ i) w).alloc _).grown hg1 (fun j hj _ => (own_block hown hj).1)
  exact k1.below (fun _ e => e) hBw

/-- Where the loop stands. -/
structure Dg (u0 u i : Nat) (ds : List UInt8) : Prop where
  len : ds.length = 10 - i
  le : i ≤ 10
  lt : u < 10 ^ i
  dig : (0 < u ∧ Lib.decDigits u0 = Lib.decDigits u ++ ds) ∨ (u = 0 ∧ Lib.decDigits u0 = ds)

theorem Dg.start {u0 : Nat} (h0 : 0 < u0) (h : u0 < 4294967296) : Dg u0 u0 10 [] := ⟨rfl, Nat.le_refl _, by omega, Or.inl ⟨h0, by simp⟩⟩
theorem Dg.pos {u0 u i : Nat} {ds : List UInt8} (h : Dg u0 u i ds) (hu : 0 < u) : 0 < i := by
  rcases Nat.eq_zero_or_pos i with e | e
  · have := h.lt; rw [e] at this; omega
  · exact e
theorem Dg.step {u0 u i : Nat} {ds : List UInt8} (h : Dg u0 u i ds) (hu : 0 < u) : Dg u0 (u / 10) (i - 1) (UInt8.ofNat (48 + u % 10) :: ds) := by
  have hi := h.pos hu
  have hle := h.le
  refine ⟨by simp [h.len]; omega, by omega, ?_, ?_⟩
  · have := h.lt
    obtain ⟨j, rfl⟩ : ∃ j, i = j + 1 := ⟨i - 1, by omega⟩
    rw [Nat.pow_succ] at this
    simp only [Nat.add_sub_cancel]
    omega
  · rcases h.dig with ⟨_, e⟩ | ⟨e, _⟩
    · by_cases h10 : u < 10
      · right
        refine ⟨by omega, ?_⟩
        rw [e, Lib.decDigits_one h10, Nat.mod_eq_of_lt h10]
        rfl
      · left
        refine ⟨by omega, ?_⟩
        rw [e, Lib.decDigits, dif_neg h10]
        simp
    · omega

end Go.Proofs.YbulkcxduDoor
