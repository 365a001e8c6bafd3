import Derived.Test.YbulkcxcsFmtItems
import Derived.Deep.DeepCutAuto
namespace Go.Proofs.YbulkcxcsFmt
open Go Go.RowKit Go.Extern.Stop Go.Stop Go.Extern
set_option linter.unusedVariables false
attribute [local go_sem] assert_26 assert_26_no assert_3 assert_37

set_option maxRecDepth 100000 in
set_option maxHeartbeats 400000 in
theorem merge_ok (w : World) (sb bb g c : Nat) (L : Int) (ts : List It) (es : List Value) (hA : ArgsAt w g ts es)
    (hs : w.cell? ⟨sb, 3, none⟩ = some (.pointer (some ⟨bb, 0, none⟩))) (hb : w.heap[bb]? = some (.cells #[.int .i64 L] 29 (0, 0)))
    (hn : ts.length ≤ 512) (hm : tot ts ≤ 524288) (hL : (tot ts : Int) ≤ L) (hL2 : L ≤ 4294967296) :
    Calls Ybaf.prog 4 #[.pointer (some ⟨sb, 0, none⟩), .slice (some ⟨g, 0, none⟩) ts.length c] w fun e w' => ∃ s, e = .returned (.tuple #[.iface 26 s, .nilIface]) ∧ w'.ownsRow w.heap.size 20 1 s (flat ts).length ((flat ts).map ifc) ∧
      w'.heap[bb]? = some (.cells #[.int .i64 (L - tot ts)] 29 (0, 0)) ∧ Keep (fun i => i = bb) w w' := by
  go_enter Ybaf.func4, Ybaf.ntmps4
  go_wp2
  go_loopw [6, 19] (fun n i wr => ∃ k : Nat, k ≤ ts.length ∧ i = .int .i64 k ∧ n = .int .i64 (tot (ts.take k)) ∧ w = wr) (fun _ i _ => ts.length - (intOf i).toNat)
  case atStart => exact ⟨0, Nat.zero_le _, rfl, by simp [tot], rfl⟩
  case round =>
    obtain ⟨k, hk, rfl, rfl, rfl⟩ := hrel
    by_cases hlt : k < ts.length
    · obtain ⟨t, ht⟩ : ∃ t, ts[k]? = some t := ⟨_, List.getElem?_eq_getElem hlt⟩
      obtain ⟨v, hv⟩ : ∃ v, es[k]? = some v := ⟨_, List.getElem?_eq_getElem (by rw [hA.len]; exact hlt)⟩
      have hix := index26 (g := g) c hlt
      have hc := hA.row.cell hv
      have e1 := tot_take ht
      have e2 := tot_take_le ts (k + 1)
      rcases hA.el k t v ht hv with ⟨h1, g', c', rfl, h3⟩ | ⟨h1, rfl⟩
      · have e3 : t.cnt = t.vals.length := by simp [It.cnt, h1]
        go_wp2
        go_roundw
        case rel => exact ⟨k + 1, by omega, by go_num, by rw [e1, e3]; go_num, trivial⟩
        case measure => simp [intOf]; omega
      · have e3 : t.cnt = 0 := by simp [It.cnt, h1]
        unfold ifc at hc
        go_wp2
        go_roundw
        case rel => exact ⟨k + 1, by omega, by go_num, by rw [e1, e3]; go_num, trivial⟩
        case measure => simp [intOf]; omega
    · obtain rfl : k = ts.length := by omega
      rw [List.take_length] at *
      go_wp2_with (go_at_call 5; refine (spend_ok _ bb L _ hb (by omega) hL (by omega)).mono ?_)
      rintro e w1 ⟨rfl, rfl⟩
      obtain ⟨i0, hi0, hz0, hz1, hz2⟩ := info20
      have b1 := block_setCell hb 0 (.int .i64 (L - tot ts))
      have k1 : Keep (fun i => i = bb) w (w.setCell ⟨bb, 0, none⟩ (.int .i64 (L - tot ts))) := (Keep.refl (fun i => i = bb) w).setCell (p := ⟨bb, 0, none⟩) (fun _ => rfl) _
      have hA1 := hA.keep k1 (fun g cs fz h e => by subst e; rw [hb] at h; simp at h)
      generalize hX : w.setCell ⟨bb, 0, none⟩ (.int .i64 (L - tot ts)) = X at *
      have hXs : X.heap.size = w.heap.size := by rw [← hX]; simp
      have hbl := lt_of_block hb
      clear hX hA
      go_wp2_with (at_make; refine wpList_make_own _ rfl _ _ 26 rfl X.heap.size 20 i0 .nilIface 1 Ybaf.underlying26 hi0 hz0 hz1 .i64 .i64 _ (tot ts + ts.length) rfl rfl (by simp) (by rw [hz2]; omega) (by unfold maxLen; omega) (Nat.le_refl _) ?_)
      intro w1 hown1 hg1
      go_wp2
      go_loopw [12, 50] (fun m i wr => ∃ k : Nat, k ≤ ts.length ∧ i = .int .i64 k ∧ m = .slice (some ⟨w.heap.size, 0, none⟩) (flat (ts.take k)).length (tot ts + ts.length) ∧ wr.ownsRow w.heap.size 20 1 (.slice (some ⟨w.heap.size, 0, none⟩) (flat (ts.take k)).length (tot ts + ts.length)) (flat (ts.take k)).length ((flat (ts.take k)).map ifc) ∧ Keep (fun _ => False) X wr) (fun _ i _ => ts.length - (intOf i).toNat)
      case atStart => exact ⟨0, Nat.zero_le _, rfl, rfl, hown1, (Keep.refl _ _).grown hg1 (fun j hj _ => by cases hj)⟩
      case round =>
        clear hown1 hg1 hk hlt
        obtain ⟨k, hk, rfl, rfl, hown, hK⟩ := hrel
        by_cases hlt : k < ts.length
        · obtain ⟨t, ht⟩ : ∃ t, ts[k]? = some t := ⟨_, List.getElem?_eq_getElem hlt⟩
          obtain ⟨v, hv⟩ : ∃ v, es[k]? = some v := ⟨_, List.getElem?_eq_getElem (by rw [hA1.len]; exact hlt)⟩
          have hix := index26 (g := g) c hlt
          have hA2 := hA1.keep hK (fun _ _ _ _ e => e)
          have hc := hA2.row.cell hv
          have f1 := flat_take ht
          have f2 := flat_take_le ts (k + 1)
          have f3 := flat_len_le ts
          have f4 : (flat (ts.take k)).length + t.flat.length ≤ tot ts + ts.length := by rw [f1, List.length_append] at f2; omega
          rcases hA2.el k t v ht hv with ⟨h1, g', c', rfl, h3⟩ | ⟨h1, rfl⟩
          · have e3 : t.flat = t.vals := by simp [It.flat, h1]
            have hnews : ∀ j u, (t.vals.map ifc)[j]? = some u → wr.cell? ((⟨g', 0, none⟩ : Addr).add j) = some u := fun j u hj => by rw [addr_add, Nat.zero_add]; exact h3.cell hj
            have h1c : ∀ u ∈ t.vals.map ifc, u.oneCell' = true := fun u hu => by
              obtain ⟨x, _, rfl⟩ := List.mem_map.1 hu
              rfl
            rw [e3] at f1 f4
            have HN := show Hid _ from hnews
            have H1 := show Hid _ from h1c
            clear hnews h1c
            go_wp2_with (at_builtin; refine wpList_append_own_spare _ rfl (.tmp 60) (.tmp 61) 26 rfl w.heap.size 20 i0 1 Ybaf.underlying26 hi0 hz1 w.heap.size (flat (ts.take k)).length (tot ts + ts.length) _ rfl hown ⟨g', 0, none⟩ t.vals.length c' (t.vals.map ifc) rfl (by simp) HN.out H1.out f4 ?_)
            intro w2 hown2 hg2
            go_wp2
            go_roundw
            case rel => exact ⟨k + 1, by omega, by go_num, by rw [f1, List.length_append], by rw [f1, List.length_append, List.map_append]; exact hown2, hK.grown hg2 (fun j hj hl => by simp at hj; omega)⟩
            case measure => simp [intOf]; omega
          · have e3 : t.flat = [t.v] := by simp [It.flat, h1]
            rw [e3] at f1 f4
            unfold ifc at hc
            have hown1 := fun o => (hown_alloc hown o)
            go_wp2_with (at_builtin; refine wpList_append_own_spare _ rfl (.tmp 63) (.tmp 65) 26 rfl w.heap.size 20 i0 1 Ybaf.underlying26 hi0 hz1 w.heap.size (flat (ts.take k)).length (tot ts + ts.length) _ rfl (hown1 _) ⟨wr.heap.size, 0, none⟩ 1 1 [ifc t.v] rfl rfl (cell_one_new _ _ _) (fun u hu => by simp at hu; subst hu; rfl) f4 ?_)
            intro w2 hown2 hg2
            go_wp2
            go_roundw
            case rel => exact ⟨k + 1, by omega, by go_num, by rw [f1, List.length_append]; rfl, by rw [f1, List.length_append, List.map_append]; exact hown2, (hK.alloc _).grown hg2 (fun j hj hl => by simp at hj; omega)⟩
            case measure => simp [intOf]; omega
        · obtain rfl : k = ts.length := by omega
          rw [List.take_length] at *
          go_wp2
          go_ret2
          exact ⟨_, rfl, hown, (hK.block _ (by omega) (fun e => e)).trans b1, keep_far k1 hK (fun _ e => e.elim)⟩

set_option maxRecDepth 100000 in
set_option maxHeartbeats 400000 in
theorem merge_bad (F : Interp) (w : World) (hF : F.answers w.tape) (sb bb g c : Nat) (L : Int) (ts : List It) (es : List Value) (hA : ArgsAt w g ts es)
    (hs : w.cell? ⟨sb, 3, none⟩ = some (.pointer (some ⟨bb, 0, none⟩))) (hb : w.heap[bb]? = some (.cells #[.int .i64 L] 29 (0, 0)))
    (hn : ts.length ≤ 512) (hm : tot ts ≤ 524288) (hL : L < (tot ts : Int)) (hL2 : -4294967296 ≤ L) :
    Calls Ybaf.prog 4 #[.pointer (some ⟨sb, 0, none⟩), .slice (some ⟨g, 0, none⟩) ts.length c] w fun e w' => ∃ ge, e = .returned (.tuple #[.nilIface, .iface 37 (.pointer (some ⟨ge, 0, none⟩))]) ∧ w'.cell? ⟨ge, 0, none⟩ = some (.string costly) ∧
      w'.heap[bb]? = some (.cells #[.int .i64 (-1)] 29 (0, 0)) ∧ Keep (fun i => i = bb) w w' := by
  go_enter Ybaf.func4, Ybaf.ntmps4
  go_wp2
  go_loopw [6, 19] (fun n i wr => ∃ k : Nat, k ≤ ts.length ∧ i = .int .i64 k ∧ n = .int .i64 (tot (ts.take k)) ∧ w = wr) (fun _ i _ => ts.length - (intOf i).toNat)
  case atStart => exact ⟨0, Nat.zero_le _, rfl, by simp [tot], rfl⟩
  case round =>
    obtain ⟨k, hk, rfl, rfl, rfl⟩ := hrel
    by_cases hlt : k < ts.length
    · obtain ⟨t, ht⟩ : ∃ t, ts[k]? = some t := ⟨_, List.getElem?_eq_getElem hlt⟩
      obtain ⟨v, hv⟩ : ∃ v, es[k]? = some v := ⟨_, List.getElem?_eq_getElem (by rw [hA.len]; exact hlt)⟩
      have hix := index26 (g := g) c hlt
      have hc := hA.row.cell hv
      have e1 := tot_take ht
      have e2 := tot_take_le ts (k + 1)
      rcases hA.el k t v ht hv with ⟨h1, g', c', rfl, h3⟩ | ⟨h1, rfl⟩
      · have e3 : t.cnt = t.vals.length := by simp [It.cnt, h1]
        go_wp2
        go_roundw
        case rel => exact ⟨k + 1, by omega, by go_num, by rw [e1, e3]; go_num, trivial⟩
        case measure => simp [intOf]; omega
      · have e3 : t.cnt = 0 := by simp [It.cnt, h1]
        unfold ifc at hc
        go_wp2
        go_roundw
        case rel => exact ⟨k + 1, by omega, by go_num, by rw [e1, e3]; go_num, trivial⟩
        case measure => simp [intOf]; omega
    · obtain rfl : k = ts.length := by omega
      rw [List.take_length] at *
      go_wp2_with (go_at_call 5; refine (spend_bad F _ hF bb L _ hb (by omega) hL hL2 (by omega)).mono ?_)
      rintro e w1 ⟨ge, rfl, _, h1, h2, h3⟩
      go_wp2
      go_ret2
      exact ⟨ge, rfl, h1, h2, h3⟩

end Go.Proofs.YbulkcxcsFmt
