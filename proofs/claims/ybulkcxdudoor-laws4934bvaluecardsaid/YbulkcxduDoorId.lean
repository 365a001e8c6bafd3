import Derived.Test.YbulkcxduDoorNum
import Derived.Lib.SlBytesConst
namespace Go.Proofs.YbulkcxduDoor
open Go Go.RowKit
set_option linter.unusedVariables false

theorem info5 : ∃ i0, Ybad.prog.info? 5 = some i0 ∧ i0.zero = some (.int .u8 0) ∧ i0.size = 1 ∧ i0.bytes = 1 := by
  have h : (Ybad.prog.info? 5).map (fun i => (i.zero, i.size, i.bytes)) = some (some (.int .u8 0), 1, 1) := by kernel_rfl
  cases hj : Ybad.prog.info? 5 with
  | none => rw [hj] at h; cases h
  | some j => rw [hj] at h; simp at h; exact ⟨j, rfl, h.1, h.2.1, h.2.2⟩

def bys (zs : List Int) : List Value := zs.map (Value.int .u8)

theorem By.own {w : World} {base : Nat} {v : Value} {zs : List Int} (h : w.ownsRow base 5 1 v zs.length (bys zs)) (hr : ∀ z ∈ zs, 0 ≤ z ∧ z ≤ 255) : ∃ a c b, v = .slice a zs.length c ∧ By w a zs b 0 := by
  obtain ⟨h1, h2⟩ := h
  rcases h2 with ⟨rfl, h0⟩ | ⟨g, cap, cur, rfl, hg, hb, hle, hcap, hsz, htk⟩
  · refine ⟨none, 0, 0, by rw [h0], fun h => absurd h (by omega), fun h => absurd h (by omega), fun i z hz => ?_, hr⟩
    have := (List.getElem?_eq_some_iff.1 hz).1
    omega
  · refine ⟨_, cap, g, rfl, fun _ => rfl, fun _ => lt_of_block hb, fun i z hz => ?_, hr⟩
    rw [Nat.zero_add, cell_block hb]
    have : (bys zs)[i]? = some (.int .u8 z) := by unfold bys; rw [List.getElem?_map, hz]; rfl
    rw [← htk, List.getElem?_take] at this
    split at this
    · simpa using this
    · cases this

set_option maxRecDepth 100000 in
set_option maxHeartbeats 400000 in
theorem clone (w : World) (a : Option Addr) (zs : List Int) (c b off : Nat) (hB : By w a zs b off) (hn : zs.length ≤ 1024) (hnil : a = none → zs.length = 0 ∧ c = 0) :
    Calls Ybad.prog 8 #[.slice a zs.length c] w fun e w' => ∃ v, e = .returned v ∧ w'.ownsRow w.heap.size 5 1 v zs.length (bys zs) ∧ Keep (fun _ => False) w w' := by
  have hq := fun (w : World) (a : Option Addr) (n c : Nat) => Lib.run_eql_slice_nil (P := Ybad.prog) w 22 5 a n c 0 0 Ybad.underlying22
  obtain ⟨i0, hi0, hz0, hz1, hz2⟩ := info5
  cases a with
  | none =>
    obtain ⟨h1, rfl⟩ := hnil rfl
    have hzs : zs = [] := List.length_eq_zero_iff.1 h1
    subst hzs
    go_enter Ybad.func8, Ybad.ntmps8
    go_wp2
    go_ret
    exact ⟨_, rfl, ⟨rfl, Or.inl ⟨rfl, rfl⟩⟩, Keep.refl _ _⟩
  | some x =>
    have hown0 : (w.alloc (.cells #[] 5)).ownsRow w.heap.size 5 1 (.slice (some ⟨w.heap.size, 0, none⟩) 0 0) 0 [] :=
      ⟨rfl, Or.inr ⟨w.heap.size, 0, #[], rfl, Nat.le_refl _, at_alloc w _, Nat.le_refl _, Nat.zero_le _, rfl, rfl⟩⟩
    have hnews : ∀ (j : Nat) u, (bys zs)[j]? = some u → (w.alloc (.cells #[] 5)).cell? (x.add j) = some u := by
      intro j u hu
      unfold bys at hu
      rw [List.getElem?_map] at hu
      obtain ⟨z, hz, rfl⟩ := Option.map_eq_some_iff.1 hu
      have h0 : 0 < zs.length := by have := (List.getElem?_eq_some_iff.1 hz).1; omega
      have hx := hB.at_ h0
      simp only [Option.some.injEq] at hx
      subst hx
      rw [addr_add]
      exact cell_al (hB.cell j z hz) _
    have h1c : ∀ u ∈ bys zs, u.oneCell' = true := fun u hu => by
      unfold bys at hu
      obtain ⟨z, _, rfl⟩ := List.mem_map.1 hu
      rfl
    have Hn := show Hid _ from hnews
    have H1 := show Hid _ from h1c
    clear hnews h1c
    go_enter Ybad.func8, Ybad.ntmps8
    go_wp2_with (at_builtin; refine wpList_append_own _ rfl (.tmp 5) (.tmp 6) 22 rfl w.heap.size 5 i0 _ 1 1 Ybad.underlying22 hi0 hz0 hz1 hz2 rfl (by omega) _ 0 [] rfl hown0 x zs.length c (bys zs) rfl (by simp [bys]) Hn.out H1.out (by unfold maxLen; omega) (by omega) (by simp) ?_)
    intro v' w1 hown1 hg1 _
    go_wp2
    go_ret
    exact ⟨v', rfl, by simpa using hown1, ((Keep.refl (fun _ => False) w).alloc _).grown hg1 (fun j hj hlt => by simp [Value.ownBlock] at hj; omega)⟩

end Go.Proofs.YbulkcxduDoor
