import Derived.Test.YbulkcxcsFmtFlatA
namespace Go.Proofs.YbulkcxcsFmt
open Go Go.RowKit Go.Extern.Stop Go.Stop Go.Extern
set_option linter.unusedVariables false
attribute [local go_sem] assert_26 assert_26_no assert_3 assert_37

theorem one_new (w : World) (o : Obj) (x : Value) (t : TypeId) : ∀ (j : Nat) u, [x][j]? = some u → ((w.alloc o).alloc (.cells #[x] t)).cell? ((⟨w.heap.size + 1, 0, none⟩ : Addr).add j) = some u := by
  have := cell_one_new (w.alloc o) x t
  rwa [show (w.alloc o).heap.size = w.heap.size + 1 by simp] at this

theorem cur_step {cur : Array Value} {xs : List Value} {j : Nat} {u : Value} (hs : j < cur.size) (ht : cur.toList.take j = xs) : (cur.setIfInBounds j u).toList.take (j + 1) = xs ++ [u] := by
  rw [Array.toList_setIfInBounds, List.take_succ_eq_append_getElem (by simpa using hs), List.getElem_set_self, List.take_set_of_le (Nat.le_refl j), ht]

theorem set_new (w : World) (p : Addr) (u x : Value) (t : TypeId) : ∀ (j : Nat) v, [x][j]? = some v → ((w.setCell p u).alloc (.cells #[x] t)).cell? ((⟨w.heap.size, 0, none⟩ : Addr).add j) = some v := by
  have := cell_one_new (w.setCell p u) x t
  rwa [show (w.setCell p u).heap.size = w.heap.size by simp] at this

/-- One round of the inner loop: the row of e, the wanted numbers. -/
theorem inner_step {B : Nat} {X wr w3 : World} {R j n : Nat} {cur : Array Value} {u vw : Value} {o : Obj} {xs : List Value} (hX : X.heap.size = R + 1) (kX : Keep (S3 B X) X wr) (hh : wr.heap[R + 1]? = some (.cells cur 20 (0, 0)))
    (hw : ((wr.setCell ⟨R + 1, j, none⟩ u).alloc o).ownsRow B 3 1 vw n xs) (hg : ((wr.setCell ⟨R + 1, j, none⟩ u).alloc o).grownBy w3 vw.ownBlock) :
    w3.heap[R + 1]? = some (.cells (cur.setIfInBounds j u) 20 (0, 0)) ∧ Keep (S3 B X) X w3 := by
  have h1 : ((wr.setCell ⟨R + 1, j, none⟩ u).alloc o).heap[R + 1]? = some (.cells (cur.setIfInBounds j u) 20 (0, 0)) := (old_alloc _ _ (by have := lt_of_block hh; simpa using this)).trans (block_setCell hh j u)
  have hk := (kX.setCell (p := ⟨R + 1, j, none⟩) (fun h => by simp at h; omega) u).alloc o
  refine ⟨?_, grow3 hk hw hg⟩
  refine (hg.block _ (lt_of_block h1) (fun e => ?_)).trans h1
  obtain ⟨_, h2⟩ := hw
  rcases h2 with ⟨rfl, _⟩ | ⟨g, cap, cur', rfl, hb, hh', _⟩
  · cases e
  · simp [Value.ownBlock] at e
    subst e
    rw [h1] at hh'
    simp at hh'

/-- A row as the last loop sees it. -/
theorem own_form {W : World} {base e n : Nat} {v : Value} {xs : List Value} (h : W.ownsRow base e 1 v n xs) : ∃ a c g, v = .slice a n c ∧ (0 < n → a = some ⟨g, 0, none⟩) ∧ ∀ (i : Nat) u, xs[i]? = some u → W.cell? ⟨g, i, none⟩ = some u := by
  obtain ⟨h1, h2⟩ := h
  rcases h2 with ⟨rfl, h0⟩ | ⟨g, cap, cur, rfl, hg, hb, hle, hcap, hsz, htk⟩
  · refine ⟨none, 0, 0, by rw [h0], fun h => absurd h (by omega), fun i u hu => ?_⟩
    have := (List.getElem?_eq_some_iff.1 hu).1
    omega
  · refine ⟨_, cap, g, rfl, fun _ => rfl, fun i u hu => ?_⟩
    rw [cell_block hb]
    rw [← htk, List.getElem?_take] at hu
    split at hu
    · simpa using hu
    · cases hu
theorem index26a {a : Option Addr} {n g k : Nat} (ha : 0 < n → a = some ⟨g, 0, none⟩) (hk : k < n) (c : Nat) (W : World) : (Instr.indexAt 26 (.slice a n c) (.int .i64 k)).run Ybaf.prog W = .ok (.pointer (some ⟨g, k, none⟩)) W := by
  have := index_any und26 (fun W => by rw [elem26]; exact sizeOf20 W) (c := c) ha hk W
  rwa [Nat.zero_add, Nat.mul_one] at this
theorem index23a {a : Option Addr} {n g k : Nat} (ha : 0 < n → a = some ⟨g, 0, none⟩) (hk : k < n) (c : Nat) (W : World) : (Instr.indexAt 23 (.slice a n c) (.int .i64 k)).run Ybaf.prog W = .ok (.pointer (some ⟨g, k, none⟩)) W := by
  have := index23 ha hk c W
  rwa [Nat.zero_add] at this

set_option maxRecDepth 100000 in
set_option maxHeartbeats 1000000 in
theorem flat_small (F : Interp) (w : World) (hF : F.answers w.tape) (a : Option Addr) (ts : List It) (c b off : Nat) (va : Nat → Option Addr) (vc vb vo : Nat → Nat) (L : Int) (hI : ITin w a ts b off va vc vb vo) (hs : Small ts) (hL : -2147483648 ≤ L) (hL2 : L ≤ 2147483647) :
    Calls Ybaf.prog 3 #[.slice a ts.length c, .int .i32 L] w fun e w' => e = .returned (.bool true) ∧ Below w.heap.size w w' := by
  obtain ⟨sm1, sm2⟩ := hs
  obtain ⟨i0, hi0, hz0, hz1, hz2⟩ := info20
  obtain ⟨i3, hi3, hy0, hy1, hy2⟩ := info3
  have htot := tot_le ts sm2
  have hfl := flat_len_le ts
  go_enter Ybaf.func3, Ybaf.ntmps3
  go_wp2
  go_loopw [30] (fun i wr => ∃ k : Nat, k ≤ ts.length ∧ i = .int .i64 k ∧ w = wr) (fun i _ => ts.length - (intOf i).toNat)
  case atStart => exact ⟨0, Nat.zero_le _, rfl, rfl⟩
  case round =>
    obtain ⟨k, hk, rfl, rfl⟩ := hrel
    by_cases hlt : k < ts.length
    · obtain ⟨t, ht⟩ : ∃ t, ts[k]? = some t := ⟨_, List.getElem?_eq_getElem hlt⟩
      have hix := index22 hI.at_ hlt c
      have q1 := hI.c1 k t ht
      have hsm := sm2 t (List.mem_of_getElem? ht)
      go_wp2
      go_roundw
      case rel => exact ⟨k + 1, by omega, by go_num, trivial⟩
      case measure => simp [intOf]; omega
    · obtain rfl : k = ts.length := by omega
      go_wp2_with (at_make; refine wpList_make_own _ rfl _ _ 26 rfl w.heap.size 20 i0 .nilIface 1 Ybaf.underlying26 hi0 hz0 hz1 .i64 .i64 _ ts.length rfl rfl rfl (by rw [hz2]; omega) (by unfold maxLen; omega) (Nat.le_refl _) ?_)
      intro w1 hown1 hg1
      go_wp2
      go_loopw [6, 7, 8, 47] (fun va vw n i wr => ∃ es : List Value, es.length ≤ ts.length ∧ i = .int .i64 es.length ∧ n = .int .i64 (tot (ts.take es.length)) ∧ va = .slice (some ⟨w.heap.size, 0, none⟩) es.length ts.length ∧ Bt w wr ts es (flat (ts.take es.length)) vw) (fun _ _ _ i _ => ts.length - (intOf i).toNat)
      case atStart => exact ⟨[], Nat.zero_le _, rfl, rfl, rfl, Bt.start hown1 hg1⟩
      case round =>
        clear hown1 hg1 hk hlt
        obtain ⟨es, hk, rfl, rfl, rfl, hB⟩ := hrel
        by_cases hlt : es.length < ts.length
        · obtain ⟨t, ht⟩ : ∃ t, ts[es.length]? = some t := ⟨_, List.getElem?_eq_getElem hlt⟩
          have hix := index22 hI.at_ hlt c
          have hI1 := hI.keep hB.keep
          have q0 := hI1.c0 _ t ht
          have q1 := hI1.c1 _ t ht
          have q2 := hI1.c2 _ t ht
          have hsm := sm2 t (List.mem_of_getElem? ht)
          have f1 := flat_take ht
          have f2 := flat_take_le ts (es.length + 1)
          have g1 := tot_take ht
          have g2 := tot_take_le ts (es.length + 1)
          have hga : w.heap.size < wr.heap.size := by
            obtain ⟨cur, hh, _⟩ := ownsRow_block hB.args
            exact lt_of_block hh
          cases hb : t.arr
          · rw [hb] at q0
            have e3 : t.flat = [t.v] := by simp [It.flat, hb]
            have e4 : t.cnt = 0 := by simp [It.cnt, hb]
            rw [e3] at f1
            rw [f1, List.length_append] at f2
            simp at f2
            go_wp2_with (at_builtin; refine wpList_append_own_spare _ rfl (.tmp 88) (.tmp 92) 26 rfl w.heap.size 20 i0 1 Ybaf.underlying26 hi0 hz1 w.heap.size es.length ts.length es rfl ((hB.alloc _).alloc _).args ⟨wr.heap.size + 1, 0, none⟩ 1 1 [ifc t.v] rfl rfl (one_new _ _ _ _) oneCell_ifc (by omega) ?_)
            intro w2 hown2 hg2
            have hB2 := ((hB.alloc _).alloc _).putA ht (Or.inr ⟨hb, rfl⟩) hown2 hg2
            have r2 : w2.cell? ⟨wr.heap.size, 2, none⟩ = some (.int .i64 t.v) := ((hB.alloc _).alloc _).cell hg2 hga (cell_al (cell_block (at_alloc wr _) 2) _)
            have hsz := hB2.keep.size
            clear hg2 hown2
            go_wp2_with (at_builtin; refine wpList_append_own _ rfl (.tmp 94) (.tmp 97) 23 rfl w.heap.size 3 i3 (.int .i64 0) 1 8 Ybaf.underlying23 hi3 hy0 hy1 hy2 rfl (by omega) _ _ _ rfl (hB2.alloc _).want ⟨w2.heap.size, 0, none⟩ 1 1 [.int .i64 t.v] rfl rfl (cell_one_new _ _ _) oneCell_int (by unfold maxLen; omega) (by omega) (by simp; omega) ?_)
            intro vw' w3 hown3 hg3 _
            have hB3 := (hB2.alloc _).putW (fw' := flat (ts.take es.length) ++ [t.v]) (by rw [List.length_append, ints_append]; exact hown3) hg3
            go_wp2
            go_roundw
            case rel => exact ⟨es ++ [ifc t.v], by simp; omega, by simp, by simp [g1, e4], by simp, by simp [f1]; exact hB3⟩
            case measure => simp [intOf]; omega
          · rw [hb] at q0
            have e3 : t.flat = t.vals := by simp [It.flat, hb]
            have e4 : t.cnt = t.vals.length := by simp [It.cnt, hb]
            rw [e3] at f1
            rw [f1, List.length_append] at f2
            go_wp2_with (at_make; refine wpList_make_full _ rfl _ _ 26 rfl 0 20 i0 .nilIface 1 Ybaf.underlying26 hi0 hz0 hz1 .i64 .i64 _ _ t.vals.length rfl rfl rfl rfl (by rw [hz2]; omega) (by unfold maxLen; omega) (Nat.zero_le _) ?_)
            intro w2 hown2 hg2
            have kX : Keep (S3 w.heap.size (wr.alloc (.cells #[.bool true, .slice (va es.length) t.vals.length (vc es.length), .int .i64 t.v] 25))) (wr.alloc (.cells #[.bool true, .slice (va es.length) t.vals.length (vc es.length), .int .i64 t.v] 25)) w2 := (Keep.refl _ _).grown hg2 (fun j hj _ => by cases hj)
            obtain ⟨cur0, hh0, hcs0, _⟩ := ownsRow_block hown2
            have hBX := hB.alloc (.cells #[.bool true, .slice (va es.length) t.vals.length (vc es.length), .int .i64 t.v] 25)
            have hit := at_alloc wr (.cells #[.bool true, .slice (va es.length) t.vals.length (vc es.length), .int .i64 t.v] 25)
            have hXs : (wr.alloc (.cells #[.bool true, .slice (va es.length) t.vals.length (vc es.length), .int .i64 t.v] 25)).heap.size = wr.heap.size + 1 := by simp
            have hwant := hown_keep hBX.want ((Keep.refl (fun _ => False) _).grown hg2 (fun j hj _ => by cases hj)) (fun _ _ _ _ _ e => e)
            clear hown2 hg2
            generalize wr.alloc (.cells #[.bool true, .slice (va es.length) t.vals.length (vc es.length), .int .i64 t.v] 25) = X at *
            clear hI1 q0 q1 q2 hB
            generalize wr.heap.size = R at *
            have nit : ¬ S3 w.heap.size X R := fun e => by
              obtain ⟨_, cs, fz, hb⟩ := e
              rw [hit] at hb
              simp at hb
            have r1 : w2.cell? ⟨R, 1, none⟩ = some (.slice (va es.length) t.vals.length (vc es.length)) := cell_block ((kX.block _ (by omega) nit).trans hit) 1
            go_wp2
            go_loopw [7, 63] (fun vw i wi => ∃ (j : Nat) (cur : Array Value), j ≤ t.vals.length ∧ i = .int .i64 j ∧ wi.heap[R + 1]? = some (.cells cur 20 (0, 0)) ∧ cur.size = t.vals.length ∧ cur.toList.take j = (t.vals.take j).map ifc ∧
              wi.ownsRow w.heap.size 3 1 vw (flat (ts.take es.length) ++ t.vals.take j).length (ints (flat (ts.take es.length) ++ t.vals.take j)) ∧ Keep (S3 w.heap.size X) X wi) (fun _ i _ => t.vals.length - (intOf i).toNat)
            case atStart => exact ⟨0, cur0, Nat.zero_le _, rfl, hh0, by omega, rfl, by simpa using hwant, kX⟩
            case round =>
              clear kX hh0 hcs0 hwant r1
              obtain ⟨j, cur, hj, rfl, hh, hcs, hct, hw, kX⟩ := hrel
              by_cases hjl : j < t.vals.length
              · have hIi := hI.keep (keep_far hBX.keep kX (fun i e => e.1))
                have hix2 := index23 (fun h => (hI.vat _ t ht h).1) hjl (vc es.length)
                obtain ⟨x, hx⟩ : ∃ x, t.vals[j]? = some x := ⟨_, List.getElem?_eq_getElem hjl⟩
                have q := hIi.v _ t ht j x hx
                have hix3 := index26 (g := R + 1) t.vals.length hjl
                have y1 : wr.cell? ⟨R + 1, j, none⟩ = some (cur[j]'(by omega)) := (cell_block hh j).trans (Array.getElem?_eq_getElem (by omega))
                have y2 := free_block hh j
                have hlen : (flat (ts.take es.length) ++ t.vals.take j).length ≤ (flat ts).length := by rw [List.length_append, List.length_take]; omega
                have hbs := kX.size
                have hset : ∀ u, Keep (fun i => i = R + 1) wr (wr.setCell ⟨R + 1, j, none⟩ u) := fun u => (Keep.refl (fun i => i = R + 1) wr).setCell (p := ⟨R + 1, j, none⟩) (fun _ => rfl) u
                have hws : ∀ u o, ((wr.setCell ⟨R + 1, j, none⟩ u).alloc o).ownsRow w.heap.size 3 1 u7 (flat (ts.take es.length) ++ t.vals.take j).length (ints (flat (ts.take es.length) ++ t.vals.take j)) := fun u o => hown_alloc (hown_keep hw (hset u) (fun g cs fz _ hb e => by subst e; rw [hh] at hb; simp at hb)) o
                have hRl := lt_of_block hh
                have HW := show Hid _ from hws
                clear hws hIi
                go_wp2_with (at_builtin; refine wpList_append_own _ rfl (.tmp 73) (.tmp 75) 23 rfl w.heap.size 3 i3 (.int .i64 0) 1 8 Ybaf.underlying23 hi3 hy0 hy1 hy2 rfl (by omega) u7 _ _ rfl (HW.out _ _) ⟨wr.heap.size, 0, none⟩ 1 1 [.int .i64 x] rfl rfl (set_new _ _ _ _ _) oneCell_int (by unfold maxLen; omega) (by omega) (by simp; omega) ?_)
                intro vw' w3 hown3 hg3 _
                obtain ⟨hh3, k3⟩ := inner_step hXs kX hh (HW.out _ _) hg3
                have etk : t.vals.take (j + 1) = t.vals.take j ++ [x] := by
                  rw [List.take_succ_eq_append_getElem hjl, (List.getElem?_eq_some_iff.1 hx).2]
                have hct3 := cur_step (u := .iface 3 (.int .i64 x)) (by omega) hct
                clear HW hg3 hh hw kX hct hset
                go_wp2
                go_roundw
                case rel => exact ⟨j + 1, _, by omega, by go_num, hh3, by simpa using hcs, by rw [hct3, etk, List.map_append]; rfl, by rw [etk, ← List.append_assoc, List.length_append, ints_append, ints_one]; simpa [Nat.min_eq_left hj] using hown3, k3⟩
                case measure => simp [intOf]; omega
              · obtain rfl : j = t.vals.length := by omega
                have r1 : wr.cell? ⟨R, 1, none⟩ = some (.slice (va es.length) t.vals.length (vc es.length)) := cell_block ((kX.block _ (by omega) nit).trans hit) 1
                have hBi := hBX.inner kX (fw' := flat (ts.take es.length) ++ t.vals) (by rw [List.take_length] at hw; exact hw)
                have hE : ElemA wr w.heap.size t (.iface 26 (.slice (some ⟨R + 1, 0, none⟩) t.vals.length t.vals.length)) := by
                  refine Or.inl ⟨hb, R + 1, t.vals.length, rfl, by omega, cur, _, hh, fun i v hv => ?_⟩
                  rw [List.take_length] at hct
                  rw [← hct] at hv
                  rw [List.getElem?_take] at hv
                  split at hv
                  · simpa using hv
                  · cases hv
                clear hw hh hct
                go_wp2_with (at_builtin; refine wpList_append_own_spare _ rfl (.tmp 83) (.tmp 86) 26 rfl w.heap.size 20 i0 1 Ybaf.underlying26 hi0 hz1 w.heap.size es.length ts.length es rfl (hBi.alloc _).args ⟨wr.heap.size, 0, none⟩ 1 1 [.iface 26 (.slice (some ⟨R + 1, 0, none⟩) t.vals.length t.vals.length)] rfl rfl (cell_one_new _ _ _) oneCell_ifc (by omega) ?_)
                intro w3 hown3 hg3
                have hB3 := (hBi.alloc _).putA ht (hE.keep ((Keep.refl (fun _ => False) wr).alloc _) (fun _ _ _ _ _ e => e)) hown3 hg3
                clear hown3 hg3
                go_wp2
                go_roundw
                case rel => exact ⟨es ++ [.iface 26 (.slice (some ⟨R + 1, 0, none⟩) t.vals.length t.vals.length)], by simp; omega, by simp, by simp [g1, e4], by simp, by simp [f1]; exact hB3⟩
                case measure => simp [intOf]; omega
        · obtain heq : es.length = ts.length := by omega
          have hBm := fun o o' => ((hB.alloc o).alloc o').argsAt heq
          have hsb : ∀ o, (((wr.alloc o).alloc (.cells #[.nilIface, .int .i64 0, .pointer none, .pointer (some ⟨wr.heap.size, 0, none⟩)] 32)).cell? ⟨wr.heap.size + 1, 3, none⟩ = some (.pointer (some ⟨wr.heap.size, 0, none⟩))) := fun o => by
            have := at_alloc (wr.alloc o) (.cells #[.nilIface, .int .i64 0, .pointer none, .pointer (some ⟨wr.heap.size, 0, none⟩)] 32)
            rw [show (wr.alloc o).heap.size = wr.heap.size + 1 by simp] at this
            exact cell_block this 3
          have hbb : ∀ o, (((wr.alloc (.cells #[.int .i64 L] 29)).alloc o).heap[wr.heap.size]? = some (.cells #[.int .i64 L] 29 (0, 0))) := fun o => (old_alloc _ _ (by simp)).trans (at_alloc wr _)
          rw [heq, List.take_length] at hB
          by_cases hLt : (tot ts : Int) ≤ L
          · go_wp2_with (go_at_call 4; refine (merge_ok _ (wr.heap.size + 1) wr.heap.size w.heap.size ts.length L ts es (hBm _ _) (hsb _) (hbb _) sm1 (by omega) hLt (by omega)).mono ?_)
            rintro e wm ⟨s, rfl, ho, hbm, kM⟩
            have hkm : Keep (fun _ => False) w wm := keep_far ((hB.alloc _).alloc _).keep kM (fun i e => by have := hB.keep.size; omega)
            have hwant := hown_keep ((hB.alloc _).alloc _).want kM (fun g cs fz _ hb e => by subst e; rw [hbb] at hb; simp at hb)
            obtain ⟨al, cs, gs, rfl, hs1, hs2⟩ := own_form ho
            obtain ⟨aw, cw, gw, hvw, hw1, hw2⟩ := own_form hwant
            have hbc : wm.cell? ⟨wr.heap.size, 0, none⟩ = some (.int .i64 (L - tot ts)) := cell_block hbm 0
            clear ho hbm kM hwant hsb hbb hBm hB
            subst hvw
            go_wp2
            go_loopw [173] (fun i wi => ∃ k : Nat, k ≤ (flat ts).length ∧ i = .int .i64 k ∧ wm = wi) (fun i _ => (flat ts).length - (intOf i).toNat)
            case atStart => exact ⟨0, Nat.zero_le _, rfl, rfl⟩
            case round =>
              obtain ⟨k, hk4, rfl, rfl⟩ := hrel
              by_cases hkl : k < (flat ts).length
              · have z1 := index26a hs1 hkl cs
                have z2 := index23a hw1 hkl cw
                obtain ⟨x, z3, z4⟩ : ∃ x, wm.cell? ⟨gs, k, none⟩ = some (.iface 3 (.int .i64 x)) ∧ wm.cell? ⟨gw, k, none⟩ = some (.int .i64 x) :=
                  ⟨(flat ts)[k], hs2 k _ (by rw [List.getElem?_map, List.getElem?_eq_getElem hkl]; rfl), hw2 k _ (by unfold ints; rw [List.getElem?_map, List.getElem?_eq_getElem hkl]; rfl)⟩
                clear hs1 hs2 hw1 hw2
                go_wp2
                go_roundw
                case rel => exact ⟨k + 1, by omega, by go_num, trivial⟩
                case measure => simp [intOf]; omega
              · go_wp2
                go_ret
                exact ⟨rfl, hkm.below (fun _ e => e.elim) (Nat.le_refl _)⟩
          · have hFr : ∀ o o', F.answers ((wr.alloc o).alloc o').tape := fun o o' => by rw [((hB.keep.alloc o).alloc o').tape]; exact hF
            go_wp2_with (go_at_call 4; refine (merge_bad F _ (hFr _ _) (wr.heap.size + 1) wr.heap.size w.heap.size ts.length L ts es (hBm _ _) (hsb _) (hbb _) sm1 (by omega) (by omega) (by omega)).mono ?_)
            rintro e wm ge rfl hge hbm kM
            have hkm : Keep (fun _ => False) w wm := keep_far ((hB.alloc _).alloc _).keep kM (fun i e => by have := hB.keep.size; omega)
            have hbc : wm.cell? ⟨wr.heap.size, 0, none⟩ = some (.int .i64 (-1)) := cell_block hbm 0
            unfold costly at hge
            clear hbm kM hsb hbb hBm hB
            go_wp2
            go_ret
            exact ⟨rfl, hkm.below (fun _ e => e.elim) (Nat.le_refl _)⟩

/-- The first item whose array is too long. -/
theorem first_big : ∀ ts : List It, (∀ t ∈ ts, t.vals.length ≤ 1024) ∨ ∃ k t, ts[k]? = some t ∧ 1024 < t.vals.length ∧ ∀ (j : Nat) u, j < k → ts[j]? = some u → u.vals.length ≤ 1024
  | [] => Or.inl (fun _ h => by cases h)
  | t :: r => by
    by_cases ht : t.vals.length ≤ 1024
    · rcases first_big r with h | ⟨k, u, h1, h2, h3⟩
      · refine Or.inl (fun x hx => ?_)
        rcases List.mem_cons.1 hx with rfl | hx
        · exact ht
        · exact h x hx
      · refine Or.inr ⟨k + 1, u, by simpa using h1, h2, fun j x hj hx => ?_⟩
        cases j with
        | zero => simp at hx; subst hx; exact ht
        | succ j => exact h3 j x (by omega) (by simpa using hx)
    · exact Or.inr ⟨0, t, rfl, by omega, fun j x hj => absurd hj (by omega)⟩

set_option maxRecDepth 100000 in
set_option maxHeartbeats 400000 in
theorem flat_big (w : World) (a : Option Addr) (ts : List It) (c b off : Nat) (va : Nat → Option Addr) (vc vb vo : Nat → Nat) (L : Int) (hI : ITin w a ts b off va vc vb vo) (hs : ¬ Small ts) :
    Calls Ybaf.prog 3 #[.slice a ts.length c, .int .i32 L] w fun e w' => e = .returned (.bool true) ∧ Below w.heap.size w w' := by
  by_cases sm1 : ts.length ≤ 512
  · rcases first_big ts with h | ⟨q, tq, hq1, hq2, hq3⟩
    · exact absurd ⟨sm1, h⟩ hs
    · have hql := (List.getElem?_eq_some_iff.1 hq1).1
      go_enter Ybaf.func3, Ybaf.ntmps3
      go_wp2
      go_loopw [30] (fun i wr => ∃ k : Nat, k ≤ q ∧ i = .int .i64 k ∧ w = wr) (fun i _ => ts.length - (intOf i).toNat)
      case atStart => exact ⟨0, Nat.zero_le _, rfl, rfl⟩
      case round =>
        obtain ⟨k, hk, rfl, rfl⟩ := hrel
        have hlt : k < ts.length := by omega
        have hix := index22 hI.at_ hlt c
        obtain ⟨t, ht⟩ : ∃ t, ts[k]? = some t := ⟨_, List.getElem?_eq_getElem hlt⟩
        have q1 := hI.c1 k t ht
        by_cases hkq : k < q
        · have hsm := hq3 k t hkq ht
          clear hq1 ht
          go_wp2
          go_roundw
          case rel => exact ⟨k + 1, by omega, by go_num, trivial⟩
          case measure => simp [intOf]; omega
        · obtain rfl : k = q := by omega
          rw [hq1] at ht
          cases ht
          clear hq1
          go_wp2
          go_ret
          exact ⟨rfl, Below.refl _ _⟩
  · have h' : (512 : Int) < (ts.length : Int) := by omega
    go_enter Ybaf.func3, Ybaf.ntmps3
    go_wp2
    go_ret
    exact ⟨rfl, Below.refl _ _⟩

theorem flatten (F : Interp) (w : World) (hF : F.answers w.tape) (a : Option Addr) (ts : List It) (c b off : Nat) (va : Nat → Option Addr) (vc vb vo : Nat → Nat) (L : Int) (hI : ITin w a ts b off va vc vb vo) (hL : -2147483648 ≤ L) (hL2 : L ≤ 2147483647) :
    Calls Ybaf.prog 3 #[.slice a ts.length c, .int .i32 L] w fun e w' => e = .returned (.bool true) ∧ Below w.heap.size w w' := by
  by_cases hs : Small ts
  · exact flat_small F w hF a ts c b off va vc vb vo L hI hs hL hL2
  · exact flat_big w a ts c b off va vc vb vo L hI hs

end Go.Proofs.YbulkcxcsFmt
