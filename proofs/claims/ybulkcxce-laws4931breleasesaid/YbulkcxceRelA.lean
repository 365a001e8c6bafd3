import Derived.Test.YbulkcxceKeep
import Derived.WalkLawsBesides
import Derived.WalkSpells
import Derived.Outline
import Derived.LaidEqlPtr
import Derived.Deep.RegionLaw
import Derived.Lib.SliceRun
import Derived.Lib.SlicesDelete
namespace Go.Proofs.Ybulkcxce.Rel
open Go Go.RowKit Go.Sort
set_option linter.unusedVariables false

/-- The plan of number t: its address; its cells. -/
def pa (B t : Nat) : Addr := ⟨B + 1 + t, 0, none⟩
def pv (B t : Nat) : Value := .pointer (some ⟨B + 1 + t, 0, none⟩)
def plan (t : Nat) : Array Value := #[.int .i64 0, .int .i64 0, .int .i64 0, .int .i64 0, .int .i64 t, .bool false]
def Plans (W : World) (B : Nat) : Prop := ∀ t, t < 5 → W.heap[B + 1 + t]? = some (.cells (plan t) 52 (0, 0))

theorem info52 : ∃ j, Yba.prog.info? 52 = some j ∧ j.size ≠ 0 := by
  have h : (Yba.prog.info? 52).map (fun i => i.size) = some 6 := by kernel_rfl
  cases hj : Yba.prog.info? 52 with
  | none => rw [hj] at h; cases h
  | some j => rw [hj] at h; simp at h; exact ⟨j, rfl, by omega⟩

theorem equal_plan {W : World} {B s t : Nat} (h : Plans W B) (hs : s < 5) (ht : t < 5) (d : Nat) : (Op.equalIn (d + 1) 46 (.pointer (some ⟨B + 1 + s, 0, none⟩)) (.pointer (some ⟨B + 1 + t, 0, none⟩))).run Yba.prog W = .ok (s == t) W := by
  obtain ⟨j, hj, hz⟩ := info52
  by_cases e : s = t
  · subst e
    simp [Op.equalIn, run_underlying Yba.underlying46, sizeOf, typeInfo, hj, run_sameAddr_same]
  · have hne : (⟨B + 1 + s, 0, none⟩ : Addr) ≠ ⟨B + 1 + t, 0, none⟩ := fun h' => e (by have := congrArg Addr.block h'; simp only at this; omega)
    have hb : (s == t) = false := by simp [e]
    rw [hb]
    simp [Op.equalIn, run_underlying Yba.underlying46, sizeOf, typeInfo, hj, hz, run_sameAddr_other W hne (h s hs) (h t ht)]

theorem eql_plan {W : World} {B s t : Nat} (h : Plans W B) (hs : s < 5) (ht : t < 5) : (binOp .eql 46 (.pointer (some ⟨B + 1 + s, 0, none⟩)) (.pointer (some ⟨B + 1 + t, 0, none⟩))).run Yba.prog W = .ok (.bool (s == t)) W := by
  simp only [binOp]
  simp [Op.equal, Op.maxDepth, equal_plan h hs ht 9999]

theorem neq_plan {W : World} {B s t : Nat} (h : Plans W B) (hs : s < 5) (ht : t < 5) : (binOp .neq 46 (.pointer (some ⟨B + 1 + s, 0, none⟩)) (.pointer (some ⟨B + 1 + t, 0, none⟩))).run Yba.prog W = .ok (.bool (!(s == t))) W := by
  simp only [binOp]
  simp [Op.equal, Op.maxDepth, equal_plan h hs ht 9999]

theorem Plans.keep {W W' : World} {B : Nat} {S : Nat → Prop} (h : Plans W B) (k : Keep S W W') (hS : ∀ t, t < 5 → ¬ S (B + 1 + t)) : Plans W' B :=
  fun t ht => (k.block _ (lt_of_block (h t ht)) (hS t ht)).trans (h t ht)

/-- A row of plans in block g: its element i is the plan f i. -/
def Row (W : World) (B g n : Nat) (f : Nat → Nat) : Prop := ∀ i, i < n → W.cell? ⟨g, i, none⟩ = some (.pointer (some ⟨B + 1 + f i, 0, none⟩))

set_option maxRecDepth 100000 in
set_option maxHeartbeats 400000 in
theorem index_found (B g n c q j : Nat) (f : Nat → Nat) (W : World) (hP : Plans W B) (hR : Row W B g n f) (hf : ∀ i, f i < 5) (hq : q < 5) (hn : n ≤ 1024) (hj : j < n) (hjq : f j = q) (hlt : ∀ i, i < j → f i ≠ q) :
    Calls Yba.prog 15 #[.slice (some ⟨g, 0, none⟩) n c, .pointer (some ⟨B + 1 + q, 0, none⟩)] W fun e W' => e = .returned (.int .i64 j) ∧ W' = W := by
  have Hjq : Hid (f j = q) := hjq
  clear hjq
  go_enter Yba.func15, Yba.ntmps15
  go_wp2
  go_loop [8] (fun i => ∃ k : Nat, k ≤ j ∧ i = .int .i64 k) (fun i => n - (intOf i).toNat)
  case atStart => exact ⟨0, Nat.zero_le _, rfl⟩
  case round =>
    obtain ⟨k, hk, rfl⟩ := hrel
    have hkn : k < n := by omega
    have hc := hR k hkn
    have he := eql_plan hP hq (hf k)
    by_cases hkj : k < j
    · have hb : (q == f k) = false := by have := hlt k hkj; simp; omega
      rw [hb] at he
      go_wp2
      go_round
      case rel => exact ⟨k + 1, by omega, by go_num⟩
      case measure => simp [intOf]; omega
    · obtain rfl : k = j := by omega
      have hb : (q == f k) = true := by rw [Hjq.out]; simp
      rw [hb] at he
      go_wp2
      go_ret
      exact ⟨rfl, rfl⟩

set_option maxRecDepth 100000 in
set_option maxHeartbeats 400000 in
theorem index_none (B g n c q : Nat) (f : Nat → Nat) (W : World) (hP : Plans W B) (hR : Row W B g n f) (hf : ∀ i, f i < 5) (hq : q < 5) (hn : n ≤ 1024) (hlt : ∀ i, i < n → f i ≠ q) :
    Calls Yba.prog 15 #[.slice (some ⟨g, 0, none⟩) n c, .pointer (some ⟨B + 1 + q, 0, none⟩)] W fun e W' => e = .returned (.int .i64 (-1)) ∧ W' = W := by
  go_enter Yba.func15, Yba.ntmps15
  go_wp2
  go_loop [8] (fun i => ∃ k : Nat, k ≤ n ∧ i = .int .i64 k) (fun i => n - (intOf i).toNat)
  case atStart => exact ⟨0, Nat.zero_le _, rfl⟩
  case round =>
    obtain ⟨k, hk, rfl⟩ := hrel
    by_cases hkn : k < n
    · have hc := hR k hkn
      have he := eql_plan hP hq (hf k)
      have hb : (q == f k) = false := by have := hlt k hkn; simp; omega
      rw [hb] at he
      go_wp2
      go_round
      case rel => exact ⟨k + 1, by omega, by go_num⟩
      case measure => simp [intOf]; omega
    · go_wp2
      go_ret
      exact ⟨rfl, rfl⟩

theorem zero46 (w : World) : (zeroValue 46).run Yba.prog w = .ok (.pointer none) w := by kernel_rfl
theorem info46 : ∃ i0, Yba.prog.info? 46 = some i0 ∧ i0.zero = some (.pointer none) ∧ i0.size = 1 ∧ i0.bytes = 8 := by
  have h : (Yba.prog.info? 46).map (fun i => (i.zero, i.size, i.bytes)) = some (some (.pointer none), 1, 8) := by kernel_rfl
  cases hj : Yba.prog.info? 46 with
  | none => rw [hj] at h; cases h
  | some j => rw [hj] at h; simp at h; exact ⟨j, rfl, h.1, h.2.1, h.2.2⟩

set_option maxRecDepth 100000 in
set_option maxHeartbeats 1000000 in
theorem delete_one (g n i : Nat) (d : Array (Option Addr)) (w : World) (hn : d.size = n) (hH : Holds Value.pointer w g 0 d) (hi : i < n) (hn2 : n ≤ 1024) :
    Calls Yba.prog 16 #[.slice (some ⟨g, 0, none⟩) n n, .int .i64 i, .int .i64 ((i : Int) + 1)] w fun e w' => e = .returned (.slice (some ⟨g, 0, none⟩) (n - 1) n) ∧ ∃ q, w' = putRow Value.pointer (Sort.ahead w q) g 0 (d.toList.take i ++ d.toList.drop (i + 1) ++ [none]).toArray := by
  obtain ⟨i0, hi0, hz0, hz1, hz2⟩ := info46
  -- the cells that are moved to the left
  obtain ⟨news, hnews⟩ : ∃ news, news = (d.toList.drop (i + 1)).map Value.pointer := ⟨_, rfl⟩
  have hlen : news.length = n - (i + 1) := by rw [hnews]; simp [hn]
  have hget : ∀ t, t < n - (i + 1) → news[t]? = some (Value.pointer d[i + 1 + t]!) := by
    intro t ht
    rw [hnews, List.getElem?_map, List.getElem?_drop, Array.getElem?_toList, getElem!_pos d (i + 1 + t) (by omega), Array.getElem?_eq_getElem (by omega)]
    rfl
  obtain ⟨A, hA, hsrc⟩ : ∃ A : Addr, (if n = i + 1 then some (⟨g, 0, none⟩ : Addr) else some ⟨g, i + 1, none⟩) = some A ∧ Hid (∀ t u, news[t]? = some u → w.drew.cell? (A.add t) = some u) := by
    by_cases h : n = i + 1
    · refine ⟨⟨g, 0, none⟩, by simp [h], fun t u hu => ?_⟩
      have h0 : news.length = 0 := by rw [hlen]; omega
      rw [List.length_eq_zero_iff.1 h0] at hu
      simp at hu
    · refine ⟨⟨g, i + 1, none⟩, by simp [h], fun t u hu => ?_⟩
      have ht : t < n - (i + 1) := by
        have := (List.getElem?_eq_some_iff.1 hu).1
        rwa [hlen] at this
      rw [hget t ht] at hu
      rw [Addr.add_lit]
      have := (hH (i + 1 + t) (by omega)).1
      rw [Nat.zero_add] at this
      exact this.trans hu
  have s1 : Hid (news.length = (n - (i + 1)) * 1) := by rw [Nat.mul_one]; exact hlen
  have s2 : Hid (∀ u ∈ news, u.oneCell' = true) := by
    intro u hu
    rw [hnews] at hu
    obtain ⟨x, _, rfl⟩ := List.mem_map.1 hu
    rfl
  have s3 : Hid (∀ t, t < news.length → (w.drew.cell? ⟨g, 0 + i * 1 + t, none⟩).isSome = true ∧ w.drew.frozen? ⟨g, 0 + i * 1 + t, none⟩ = false) := by
    intro t ht
    rw [hlen] at ht
    rw [Nat.mul_one, Nat.add_assoc]
    exact ⟨by show (w.cell? _).isSome = true; rw [(hH (i + t) (by omega)).1]; rfl, (hH (i + t) (by omega)).2⟩
  obtain ⟨W1, hW1⟩ : ∃ W1, W1 = w.drew.setCells g (0 + i * 1) news := ⟨_, rfl⟩
  have hW1' : W1 = putRow Value.pointer (Sort.ahead w 1) g 0 (Lib.lay d i (d.toList.drop (i + 1))) := by
    rw [hW1, hnews, Nat.mul_one, ← Lib.putRow_setCells Value.pointer (Sort.ahead w 1) g 0 _ d i (by simp; omega), putRow_self Value.pointer (Sort.ahead w 1) g 0 d (holds_ahead Value.pointer w 1 g 0 d hH)]
    rfl
  have hH1 : Holds Value.pointer W1 g 0 (Lib.lay d i (d.toList.drop (i + 1))) := by rw [hW1']; exact holds_putRow Value.pointer _ g 0 d _ (holds_ahead Value.pointer w 1 g 0 d hH) (Lib.lay_size _ _ _)
  have hcl : ∀ ty, (Builtin.clear_ #[53] ty #[.slice (some ⟨g, n - 1, none⟩) 1 1]).run Yba.prog W1 = .ok (.tuple #[]) (W1.setCells g (n - 1) [.pointer none]) :=
    fun ty => Lib.run_clear_slice W1 53 46 ty _ Yba.underlying53 zero46 rfl rfl g (n - 1) 1 1 (by omega) (fun t ht => by obtain rfl : t = 0 := (by omega); have := (hH1 (n - 1) (by rw [Lib.lay_size]; omega)).1; rw [Nat.zero_add] at this; rw [Nat.add_zero, this]; rfl) (fun t ht => by obtain rfl : t = 0 := (by omega); have := (hH1 (n - 1) (by rw [Lib.lay_size]; omega)).2; rw [Nat.zero_add] at this; exact this)
  have X : Hid (W1 = putRow Value.pointer (Sort.ahead w 1) g 0 (Lib.lay d i (d.toList.drop (i + 1)))) := hW1'
  have hW : Hid (W1 = w.drew.setCells g (0 + i * 1) news) := hW1
  have Hd : Hid (d.size = n) := hn
  clear hW1 hW1' hH1 hH hget hnews hlen hn
  go_enter Yba.func16, Yba.ntmps16
  have hin : i ≤ n := by omega
  have hi1 : i + 1 ≤ n := by omega
  have hi2 : (i : Int) + 1 ≤ (n : Int) := by omega
  have hi3 : (0 : Int) ≤ (i : Int) + 1 := by omega
  go_wp2_with fail
  go_region_law (refine step_append_room rfl (.tmp 22) (.tmp 25) 53 rfl 46 i0 1 Yba.underlying53 hi0 hz1 g 0 i n (by simp [Act.eval, Act.put]) A (n - (i + 1)) (n - (i + 1)) news (by simp [Act.eval, Act.put]) s1.out hsrc.out s2.out (by omega) s3.out ?_; rw [← hW.out])
  have e1 : i + (n - (i + 1)) = n - 1 := by omega
  have e2 : n - (n - 1) = 1 := by omega
  go_wp2
  go_ret
  refine ⟨rfl, 1, ?_⟩
  have ed := Lib.delete_arr d i (i + 1) none (by omega) (by rw [Hd.out]; omega)
  rw [Hd.out, e1, show i + 1 - i = 1 by omega] at ed
  rw [show ([none] : List (Option Addr)) = List.replicate 1 none from rfl, ← ed, X.out]
  have e3 := Lib.putRow_setCells Value.pointer (Sort.ahead w 1) g 0 (List.replicate 1 none) (Lib.lay d i (d.toList.drop (i + 1))) (n - 1) (by rw [Lib.lay_size, Hd.out]; simp; omega)
  rw [Nat.zero_add] at e3
  exact e3

/-- The row's list. -/
def rowOf (B n : Nat) (f : Nat → Nat) : List (Option Addr) := (List.range n).map fun i => some ⟨B + 1 + f i, 0, none⟩
theorem rowOf_get {B n : Nat} {f : Nat → Nat} {i : Nat} (h : i < n) : (rowOf B n f)[i]? = some (some ⟨B + 1 + f i, 0, none⟩) := by
  unfold rowOf
  rw [List.getElem?_map, List.getElem?_range h]
  rfl
theorem rowOf_len (B n : Nat) (f : Nat → Nat) : (rowOf B n f).length = n := by simp [rowOf]

/-- f with its place j struck. -/
def skip (f : Nat → Nat) (j i : Nat) : Nat := if i < j then f i else f (i + 1)

theorem keep_putRow (W : World) (q g : Nat) (d : Array (Option Addr)) : Keep (fun i => i = g) W (putRow Value.pointer (Sort.ahead W q) g 0 d) := by
  refine ⟨rfl, rfl, rfl, ?_, fun i hi hne => ?_⟩
  · rw [size_putRow]; exact Nat.le_refl _
  · show (W.heap.modify g _)[i]? = _
    rw [Array.getElem?_modify, if_neg (fun e => hne e.symm)]

theorem delete_row (B g n j : Nat) (f : Nat → Nat) (W : World) (hR : Row W B g n f) (hfz : ∀ i, W.frozen? ⟨g, i, none⟩ = false) (hj : j < n) (hn : n ≤ 1024) :
    Calls Yba.prog 16 #[.slice (some ⟨g, 0, none⟩) n n, .int .i64 j, .int .i64 ((j : Int) + 1)] W fun e W' => e = .returned (.slice (some ⟨g, 0, none⟩) (n - 1) n) ∧
      Row W' B g (n - 1) (skip f j) ∧ Keep (fun i => i = g) W W' ∧ W'.heap.size = W.heap.size := by
  have hH : Holds Value.pointer W g 0 (rowOf B n f).toArray := by
    intro i hi
    have hi' : i < n := by simpa [rowOf_len] using hi
    rw [Nat.zero_add]
    refine ⟨?_, hfz i⟩
    rw [hR i hi', getElem!_pos (rowOf B n f).toArray i hi]
    have := rowOf_get (B := B) (f := f) hi'
    rw [List.getElem?_eq_getElem (by rw [rowOf_len]; exact hi')] at this
    simp only [List.getElem_toArray]
    rw [Option.some.inj this]
  refine (delete_one g n j (rowOf B n f).toArray W (by simp [rowOf_len]) hH hj hn).mono ?_
  rintro e W' ⟨rfl, q, rfl⟩
  refine ⟨rfl, ?_, keep_putRow _ _ _ _, by rw [size_putRow]; rfl⟩
  intro i hi
  have hl : ((rowOf B n f).toArray.toList.take j ++ (rowOf B n f).toArray.toList.drop (j + 1) ++ [none]).length = n := by simp [rowOf_len]; omega
  have hs : ((rowOf B n f).toArray.toList.take j ++ (rowOf B n f).toArray.toList.drop (j + 1) ++ [none]).toArray.size = (rowOf B n f).toArray.size := by
    rw [List.size_toArray, hl]; simp [rowOf_len]
  have hc := cell?_putRow Value.pointer (Sort.ahead W q) g 0 (rowOf B n f).toArray _ (holds_ahead Value.pointer W q g 0 _ hH) hs i (by rw [List.size_toArray, hl]; omega)
  rw [Nat.zero_add] at hc
  rw [hc, getElem!_pos _ i (by rw [List.size_toArray, hl]; omega)]
  have hg : ((rowOf B n f).toArray.toList.take j ++ (rowOf B n f).toArray.toList.drop (j + 1) ++ [none])[i]? = some (some ⟨B + 1 + skip f j i, 0, none⟩) := by
    unfold skip
    by_cases h : i < j
    · rw [if_pos h, List.getElem?_append_left (by simp [rowOf_len]; omega), List.getElem?_append_left (by simp [rowOf_len]; omega), List.getElem?_take, if_pos h]
      exact rowOf_get (by omega)
    · rw [if_neg h, List.getElem?_append_left (by simp [rowOf_len]; omega), List.getElem?_append_right (by simp [rowOf_len]; omega), List.getElem?_drop]
      have : j + 1 + (i - ((rowOf B n f).toArray.toList.take j).length) = i + 1 := by simp [rowOf_len]; omega
      rw [this]
      exact rowOf_get (by omega)
  rw [List.getElem?_eq_getElem (by rw [hl]; omega)] at hg
  simp only [List.getElem_toArray]
  rw [Option.some.inj hg]

def bud (most : Int) (g n c : Nat) : Array Value := #[.int .i64 most, .slice (some ⟨g, 0, none⟩) n c]

set_option maxRecDepth 100000 in
set_option maxHeartbeats 400000 in
theorem release_none (B g s n q : Nat) (most : Int) (f : Nat → Nat) (W : World) (hs : W.heap[s]? = some (.cells (bud most g n n) 56 (0, 0))) (hP : Plans W B) (hR : Row W B g n f) (hf : ∀ i, f i < 5) (hq : q < 5) (hn : n ≤ 1024) (hlt : ∀ i, i < n → f i ≠ q) :
    Calls Yba.prog 11 #[.pointer (some ⟨s, 0, none⟩), .pointer (some ⟨B + 1 + q, 0, none⟩)] W fun e W' => e = .returned (.tuple #[]) ∧ W' = W := by
  have c1 := cell_block hs 1
  simp [bud] at c1
  go_enter Yba.func11, Yba.ntmps11
  go_wp2_with (go_at_call 15; refine (index_none B g n n q f _ hP hR hf hq hn hlt).mono ?_; rintro e w1 ⟨rfl, rfl⟩)
  go_end0
  exact ⟨rfl, rfl⟩

set_option maxRecDepth 100000 in
set_option maxHeartbeats 400000 in
theorem release_found (B g s n q j : Nat) (most : Int) (f : Nat → Nat) (W : World) (hs : W.heap[s]? = some (.cells (bud most g n n) 56 (0, 0))) (hP : Plans W B) (hR : Row W B g n f) (hfz : ∀ i, W.frozen? ⟨g, i, none⟩ = false) (hgs : g ≠ s) (hf : ∀ i, f i < 5) (hq : q < 5) (hn : n ≤ 1024) (hj : j < n) (hjq : f j = q) (hlt : ∀ i, i < j → f i ≠ q) :
    Calls Yba.prog 11 #[.pointer (some ⟨s, 0, none⟩), .pointer (some ⟨B + 1 + q, 0, none⟩)] W fun e W' => e = .returned (.tuple #[]) ∧
      Row W' B g (n - 1) (skip f j) ∧ W'.heap[s]? = some (.cells (bud most g (n - 1) n) 56 (0, 0)) ∧ Keep (fun i => i = g ∨ i = s) W W' ∧ W'.heap.size = W.heap.size := by
  have c1 := cell_block hs 1
  simp [bud] at c1
  have Hjq : Hid (f j = q) := hjq
  clear hjq
  have hlS := lt_of_block hs
  go_enter Yba.func11, Yba.ntmps11
  go_wp2_with (go_at_call 15; refine (index_found B g n n q j f _ hP hR hf hq hn hj Hjq.out hlt).mono ?_; rintro e w1 ⟨rfl, rfl⟩)
  refine (delete_row B g n j f _ hR hfz hj hn).mono ?_
  rintro e w1 ⟨rfl, hR1, k1, z1⟩
  have hs1 : w1.heap[s]? = some (.cells (bud most g n n) 56 (0, 0)) := (k1.block s hlS (fun e => hgs e.symm)).trans hs
  have d1 := cell_block hs1 1
  have fr1 := free_block hs1 1
  simp [bud] at d1
  clear c1
  go_wp2
  go_end0
  refine ⟨rfl, fun i hi => ?_, ?_, ((k1.mono (T := fun i => i = g ∨ i = s) (fun i _ h => Or.inl h)).setCell (p := ⟨s, 1, none⟩) (fun _ => Or.inr rfl) _), by simp [z1]⟩
  · exact (World.cell?_of_block (w := w1) (Below.heap_setCell w1 ⟨s, 1, none⟩ _ g hgs)).trans (hR1 i hi)
  · rw [block_setCell hs1]
    rfl

end Go.Proofs.Ybulkcxce.Rel
