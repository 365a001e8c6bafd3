import Derived.Test.YbulkcxduDoorDec
namespace Go.Proofs.YbulkcxduDoor
open Go Go.RowKit
set_option linter.unusedVariables false

theorem digit_cell (u : Nat) (ds : List UInt8) : Lib.byteCells (UInt8.ofNat (48 + u % 10) :: ds) = .int .u8 (48 + (u : Int) % 10) :: Lib.byteCells ds := by
  simp [Lib.byteCells]
  omega
theorem drop_set {α : Type} (cur : Array α) {i : Nat} (hi : 0 < i) (hle : i ≤ cur.size) {ys : List α} (h : cur.toList.drop i = ys) (v : α) : (cur.setIfInBounds (i - 1) v).toList.drop (i - 1) = v :: ys := by
  obtain ⟨j, rfl⟩ : ∃ j, i = j + 1 := ⟨i - 1, by omega⟩
  simp only [Nat.add_sub_cancel]
  rw [Array.toList_setIfInBounds, List.drop_eq_getElem_cons (by simp; omega), List.getElem_set_self]
  rw [List.drop_set_of_lt (by omega), h]

theorem dig_len (u : Nat) : 0 < (Lib.decDigits u).length := by
  rw [Lib.decDigits]
  split <;> simp

theorem slice58 (W : World) (b i : Nat) (h : i < 10) : (Instr.sliceAt 58 (.pointer (some ⟨b, 0, none⟩)) (some (.int .i64 i)) none none).run Ybad.prog W = .ok (.slice (some ⟨b, i, none⟩) (10 - i) (10 - i)) W := by
  have hal : Ybad.prog.arrayLen 58 = 10 := by kernel_rfl
  have hs : (sizeOf (Ybad.prog.elem 58)).run Ybad.prog W = .ok 1 W := by kernel_rfl
  rw [run_sliceAt_array_l W 58 ⟨b, 0, none⟩ (by kernel_rfl) .i64 i (by omega) (by rw [hal]; omega), hs, hal]
  simp [go_sem, show ¬ 10 = i by omega, addr_add]

set_option maxRecDepth 100000 in
set_option maxHeartbeats 400000 in
theorem dec_pos (B n u0 : Nat) (hu0 : 0 < u0) (hu : u0 < 4294967296) (sv : Value) (xs : List Value) (w : World) (hown : w.ownsRow B 5 1 sv n xs) (hBw : B ≤ w.heap.size) (hn : n ≤ 1024) :
    Calls Ybad.prog 9 #[sv, .int .u32 u0] w fun e w' => ∃ v', e = .returned v' ∧ w'.ownsRow B 5 1 v' (n + (Lib.decDigits u0).length) (xs ++ Lib.byteCells (Lib.decDigits u0)) ∧ Below B w w' := by
  obtain ⟨i0, hi0, hz0, hz1, hz2⟩ := info5
  have hne : ((u0 : Int) == 0) = false := by simp; omega
  have HO := show Hid _ from hown
  clear hown
  go_enter Ybad.func9, Ybad.ntmps9
  go_wp2
  go_loopw [1, 6] (fun s1 s6 wr => ∃ (u i : Nat) (ds : List UInt8) (cur : Array Value), u ≤ u0 ∧ s1 = .int .u32 u ∧ s6 = .int .i64 i ∧ Dg u0 u i ds ∧ wr.heap[w.heap.size]? = some (.cells cur 58 (0, 0)) ∧ cur.size = 10 ∧ cur.toList.drop i = Lib.byteCells ds ∧ Keep (fun _ => False) w wr) (fun s1 s6 _ => (intOf s1).toNat)
  case atStart => exact ⟨u0, 10, [], _, Nat.le_refl _, rfl, rfl, Dg.start hu0 hu, at_alloc w _, rfl, rfl, (Keep.refl _ _).alloc _⟩
  case round =>
    rcases hrel with ⟨u, i, ds, cur, hle, rfl, rfl, hD, hb, hc, hd, hK⟩
    by_cases hup : 0 < u
    · have hi := hD.pos hup
      have hi' := hD.le
      have q1 : wr.cell? ⟨w.heap.size, i - 1, none⟩ = some (cur[i - 1]'(by omega)) := (cell_block hb _).trans (Array.getElem?_eq_getElem (by omega))
      have q2 := free_block hb (i - 1)
      have hS := hD.step hup
      go_wp2
      go_roundw
      case rel => refine ⟨u / 10, i - 1, _, _, by omega, by first | rfl | (congr 1; omega) | (congr 1), by first | rfl | (congr 1; omega) | (congr 1), hS, block_setCell hb _ _, by simpa using hc, by rw [digit_cell]; exact drop_set _ hi (by omega) hd _, hK.setCell (p := ⟨w.heap.size, i - 1, none⟩) (fun e => by simp at e) _⟩
      case measure => simp [intOf]; omega
    · have hu00 : u = 0 := by omega
      subst hu00
      have hds : Lib.decDigits u0 = ds := by
        rcases hD.dig with ⟨h, _⟩ | ⟨_, h⟩
        · omega
        · exact h
      have hl := dig_len u0
      have hi' := hD.le
      have hlen := hD.len
      rw [hds] at hl
      have hsl := fun W => slice58 W w.heap.size i (by omega)
      have hcl : ∀ (j : Nat) v, (Lib.byteCells ds)[j]? = some v → wr.cell? ((⟨w.heap.size, i, none⟩ : Addr).add j) = some v := by
        intro j v hv
        rw [addr_add, cell_block hb, ← hv, ← hd, List.getElem?_drop]
        simp
      have h1c : ∀ v ∈ Lib.byteCells ds, v.oneCell' = true := fun v hv => by
        unfold Lib.byteCells at hv
        obtain ⟨z, _, rfl⟩ := List.mem_map.1 hv
        rfl
      have hlb : (Lib.byteCells ds).length = (10 - i) * 1 := by rw [byteCells_len]; omega
      have hbs : B ≤ wr.heap.size := Nat.le_trans hBw hK.size
      have HC := show Hid _ from hcl
      have H1 := show Hid _ from h1c
      have hO2 := show Hid _ from hown_keep HO.out hK (fun _ _ _ _ _ e => e)
      clear hcl h1c
      go_wp2_with (at_builtin; refine wpList_append_own _ rfl (.tmp 24) (.tmp 26) 22 rfl B 5 i0 (.int .u8 0) 1 1 Ybad.underlying22 hi0 hz0 hz1 hz2 rfl (by omega) sv n xs rfl hO2.out ⟨w.heap.size, i, none⟩ (10 - i) (10 - i) (Lib.byteCells ds) rfl hlb HC.out H1.out (by unfold maxLen; omega) (by omega) hbs ?_)
      intro v' w1 hown1 hg1 _
      go_wp2
      go_ret
      refine ⟨v', rfl, by rw [hds, hlen]; exact hown1, ?_⟩
      have k1 : Keep (fun i => B ≤ i) w w1 := (hK.mono (fun _ _ e => e.elim)).grown hg1 (fun j hj _ => (own_block HO.out hj).1)
      exact k1.below (fun _ e => e) hBw

theorem dec (B n u : Nat) (hu : u < 4294967296) (sv : Value) (xs : List Value) (w : World) (hown : w.ownsRow B 5 1 sv n xs) (hBw : B ≤ w.heap.size) (hn : n ≤ 1024) :
    Calls Ybad.prog 9 #[sv, .int .u32 u] w fun e w' => ∃ v', e = .returned v' ∧ w'.ownsRow B 5 1 v' (n + (Lib.decDigits u).length) (xs ++ Lib.byteCells (Lib.decDigits u)) ∧ Below B w w' := by
  rcases Nat.eq_zero_or_pos u with h | h
  · subst h
    exact dec_zero B n sv xs w hown hBw hn
  · exact dec_pos B n u h hu sv xs w hown hBw hn

/-- The bytes of a number, as whole numbers. -/
def dgs (u : Nat) : List Int := (Lib.decDigits u).map fun b => (b.toNat : Int)
theorem bys_dgs (zs : List Int) (u : Nat) : bys zs ++ Lib.byteCells (Lib.decDigits u) = bys (zs ++ dgs u) := by
  unfold bys dgs Lib.byteCells
  simp

theorem str_own {W : World} {B n : Nat} {v : Value} {zs : List Int} (h : W.ownsRow B 5 1 v n (bys zs)) : (convert 22 9 v).run Ybad.prog W = .ok (.string (strOfNums zs)) W := by
  obtain ⟨h1, h2⟩ := h
  have hl : zs.length = n := by simpa [bys] using h1
  rcases h2 with ⟨rfl, h0⟩ | ⟨g, cap, cur, rfl, hg, hb, hle, hcap, hsz, htk⟩
  · have : zs = [] := List.length_eq_zero_iff.1 (by omega)
    subst this
    exact run_convert_bytes_nil W 22 5 Ybad.underlying22 Ybad.underlying5 0 0 9 Ybad.underlying9
  · refine run_convert_bytes_arg W 22 5 Ybad.underlying22 Ybad.underlying5 g 0 n cap zs hl (fun i hi => ?_) 9 Ybad.underlying9
    rw [Nat.zero_add, cell_block hb]
    have hz : zs[i]? = some (zs[i]'(by omega)) := List.getElem?_eq_getElem (by omega)
    have : (bys zs)[i]? = some (.int .u8 (zs.getD i 0)) := by unfold bys; rw [List.getElem?_map, List.getD, hz]; rfl
    rw [← htk, List.getElem?_take] at this
    split at this
    · simpa using this
    · cases this

theorem equal10 (w : World) (v1 v2 : Value) (s : ByteArray) (h1 : (convert 22 9 v1).run Ybad.prog w = .ok (.string s) w) (h2 : (convert 22 9 v2).run Ybad.prog w = .ok (.string s) w) :
    Calls Ybad.prog 10 #[v1, v2] w fun e w' => e = .returned (.bool true) ∧ w' = w := by
  go_enter Ybad.func10, Ybad.ntmps10
  go_wp2
  go_ret
  exact ⟨rfl, rfl⟩

end Go.Proofs.YbulkcxduDoor
