import Derived.Test.YbulkcxceKeep
import Derived.WalkLawsBesides
import Derived.WalkSpells
import Derived.Outline
import Derived.BigQuiet
import Derived.BigRegion
import Derived.Shelf.SlMaps.Clone
namespace Go.Proofs.Ybulkcxce.Ctx
open Go Go.Maps Go.RowKit
set_option linter.unusedVariables false

def cellsR (rs : List (Int × Int)) : List Value := rs.flatMap fun p => [.int .u64 p.1, .int .u64 p.2]
theorem cellsR_len (rs : List (Int × Int)) : (cellsR rs).length = rs.length * 2 := by
  induction rs with
  | nil => rfl
  | cons p r ih => simp [cellsR] at ih ⊢; omega
theorem cellsR_one (rs : List (Int × Int)) : ∀ u ∈ cellsR rs, u.oneCell' = true := by
  intro u hu
  obtain ⟨p, _, hp⟩ := List.mem_flatMap.1 hu
  simp at hp
  rcases hp with rfl | rfl <;> rfl
theorem cellsR_snoc (rs : List (Int × Int)) (p : Int × Int) : cellsR (rs ++ [p]) = cellsR rs ++ [.int .u64 p.1, .int .u64 p.2] := by simp [cellsR]

/-- The slice value v owns the runs rs, in memory from block base on. -/
def Runs (W : World) (base : Nat) (v : Value) (rs : List (Int × Int)) : Prop := W.ownsRow base 43 2 v rs.length (cellsR rs)

theorem info43 : ∃ i0, Yba.prog.info? 43 = some i0 ∧ i0.zero = some (.agg #[.int .u64 0, .int .u64 0]) ∧ i0.size = 2 ∧ i0.bytes = 16 := by
  have h : (Yba.prog.info? 43).map (fun i => (i.zero, i.size, i.bytes)) = some (some (.agg #[.int .u64 0, .int .u64 0]), 2, 16) := by kernel_rfl
  cases hj : Yba.prog.info? 43 with
  | none => rw [hj] at h; cases h
  | some j => rw [hj] at h; simp at h; exact ⟨j, rfl, h.1, h.2.1, h.2.2⟩

theorem Runs.keep {W W' : World} {base : Nat} {v : Value} {rs : List (Int × Int)} {S : Nat → Prop} (h : Runs W base v rs) (k : Keep S W W') (hS : ∀ g, v.ownBlock = some g → ¬ S g) : Runs W' base v rs := by
  obtain ⟨h1, h2⟩ := h
  refine ⟨h1, ?_⟩
  rcases h2 with h2 | ⟨g, cap, cur, rfl, hg, hb, r⟩
  · exact Or.inl h2
  · exact Or.inr ⟨g, cap, cur, rfl, hg, (k.block g (lt_of_block hb) (hS g rfl)).trans hb, r⟩

set_option maxRecDepth 100000 in
set_option maxHeartbeats 400000 in
theorem sclone (W : World) (base : Nat) (v : Value) (rs : List (Int × Int)) (h : Runs W base v rs) (hn : rs.length ≤ 1024) :
    Calls Yba.prog 13 #[v] W fun e W' => ∃ v', e = .returned v' ∧ Runs W' W.heap.size v' rs ∧ Keep (fun _ => False) W W' := by
  obtain ⟨h1, h2⟩ := h
  have hq := fun (w : World) (a : Option Addr) (n c : Nat) => Lib.run_eql_slice_nil (P := Yba.prog) w 39 43 a n c 0 0 Yba.underlying39
  rcases h2 with ⟨rfl, h0⟩ | ⟨g, cap, cur, rfl, hg, hb, hle, hcap, hsz, htk⟩
  · go_enter Yba.func13, Yba.ntmps13
    go_wp2
    go_ret
    exact ⟨_, rfl, ⟨h1, Or.inl ⟨rfl, h0⟩⟩, Keep.refl _ _⟩
  · obtain ⟨i0, hi0, hz0, hz1, hz2⟩ := info43
    have hnews : ∀ j u, (cellsR rs)[j]? = some u → (W.alloc (.cells #[] 43)).cell? ((⟨g, 0, none⟩ : Addr).add j) = some u := by
      intro j u hu
      rw [Addr.add_lit, Nat.zero_add, World.cell?_of_block (w := W) (old_alloc W _ (lt_of_block hb)), cell_block hb]
      rw [← htk] at hu
      rw [List.getElem?_take] at hu
      split at hu
      · simpa using hu
      · cases hu
    have hown0 : (W.alloc (.cells #[] 43)).ownsRow W.heap.size 43 2 (.slice (some ⟨W.heap.size, 0, none⟩) 0 0) 0 [] :=
      ⟨rfl, Or.inr ⟨W.heap.size, 0, #[], rfl, Nat.le_refl _, at_alloc W _, Nat.le_refl _, Nat.zero_le _, rfl, rfl⟩⟩
    have Hn : Hid (∀ j u, (cellsR rs)[j]? = some u → (W.alloc (.cells #[] 43)).cell? ((⟨g, 0, none⟩ : Addr).add j) = some u) := hnews
    have H1 : Hid ((cellsR rs).length = rs.length * 2) := h1
    have H2 : Hid (List.take (rs.length * 2) cur.toList = cellsR rs) := htk
    clear hnews h1 htk
    go_enter Yba.func13, Yba.ntmps13
    go_wp2_with (at_builtin; refine wpList_append_own _ rfl (.tmp 5) (.tmp 6) 39 rfl W.heap.size 43 i0 _ 2 16 Yba.underlying39 hi0 hz0 hz1 hz2 rfl (by omega) _ 0 [] rfl hown0 ⟨g, 0, none⟩ rs.length cap (cellsR rs) rfl H1.out Hn.out (cellsR_one rs) (by unfold maxLen; omega) (by omega) (by simp) ?_)
    intro v' w1 hown1 hg1 _
    go_wp2
    go_ret
    exact ⟨v', rfl, hown1, ((Keep.refl (fun _ => False) W).alloc _).grown hg1 (fun j hj hlt => by simp [Value.ownBlock] at hj; omega)⟩

def lo (rs : List (Int × Int)) (i : Nat) : Int := (rs.getD i (0, 0)).1
def hi (rs : List (Int × Int)) (i : Nat) : Int := (rs.getD i (0, 0)).2

theorem cellsR_get : ∀ (rs : List (Int × Int)) (i : Nat), i < rs.length → (cellsR rs)[i * 2]? = some (.int .u64 (lo rs i)) ∧ (cellsR rs)[i * 2 + 1]? = some (.int .u64 (hi rs i))
  | [], i, h => absurd h (Nat.not_lt_zero _)
  | p :: r, 0, _ => ⟨rfl, rfl⟩
  | p :: r, i + 1, h => by
    have ih := cellsR_get r i (by simpa using h)
    have e1 : (i + 1) * 2 = i * 2 + 2 := by omega
    show ((.int .u64 p.1 :: .int .u64 p.2 :: cellsR r : List Value))[(i + 1) * 2]? = _ ∧ ((.int .u64 p.1 :: .int .u64 p.2 :: cellsR r : List Value))[(i + 1) * 2 + 1]? = _
    rw [e1]
    exact ih

/-- A slice of runs, as the walk sees it. -/
theorem Runs.form {W : World} {base : Nat} {v : Value} {rs : List (Int × Int)} (h : Runs W base v rs) : ∃ a c g, v = .slice a rs.length c ∧ (0 < rs.length → a = some ⟨g, 0, none⟩ ∧ v.ownBlock = some g ∧ base ≤ g ∧ g < W.heap.size) ∧
    ∀ i, i < rs.length → W.cell? ⟨g, i * 2, none⟩ = some (.int .u64 (lo rs i)) ∧ W.cell? ⟨g, i * 2 + 1, none⟩ = some (.int .u64 (hi rs i)) := by
  obtain ⟨h1, h2⟩ := h
  rcases h2 with ⟨rfl, h0⟩ | ⟨g, cap, cur, rfl, hg, hb, hle, hcap, hsz, htk⟩
  · exact ⟨none, 0, 0, by rw [h0], fun h => absurd h (by omega), fun i h => absurd h (by omega)⟩
  · refine ⟨_, cap, g, rfl, fun _ => ⟨rfl, rfl, hg, lt_of_block hb⟩, fun i hi => ?_⟩
    have hc : ∀ j, j < rs.length * 2 → W.cell? ⟨g, j, none⟩ = (cellsR rs)[j]? := fun j hj => by
      rw [cell_block hb, ← htk, List.getElem?_take, if_pos hj, Array.getElem?_toList]
    have := cellsR_get rs i hi
    exact ⟨(hc _ (by omega)).trans this.1, (hc _ (by omega)).trans this.2⟩

theorem elem39 : Yba.prog.elem 39 = 43 := by kernel_rfl
theorem und39 : Yba.prog.underlying 39 = some (.slice (Yba.prog.elem 39)) := by kernel_rfl
theorem sizeOf43 (W : World) : (sizeOf 43).run Yba.prog W = .ok 2 W := by kernel_rfl
theorem addr_add (g off i : Nat) : (⟨g, off, none⟩ : Addr).add i = ⟨g, off + i, none⟩ := by
  unfold Addr.add
  split <;> simp_all

/-- An index into a slice, its address told only where it has an element. -/
theorem index_any {t s : Nat} (hu : Yba.prog.underlying t = some (.slice (Yba.prog.elem t))) (hs : ∀ W, (sizeOf (Yba.prog.elem t)).run Yba.prog W = .ok s W) {a : Option Addr} {n c b off k : Nat} (ha : 0 < n → a = some ⟨b, off, none⟩) (hk : k < n) (W : World) :
    (Instr.indexAt t (.slice a n c) (.int .i64 k)).run Yba.prog W = .ok (.pointer (some ⟨b, off + k * s, none⟩)) W := by
  rw [ha (by omega), run_indexAt_slice (h := hu), if_pos (by omega), hs]
  simp only [Result.andThen, Int.toNat_natCast, addr_add]

theorem index39 {a : Option Addr} {n c g k : Nat} (ha : 0 < n → a = some ⟨g, 0, none⟩) (hk : k < n) (W : World) :
    (Instr.indexAt 39 (.slice a n c) (.int .i64 k)).run Yba.prog W = .ok (.pointer (some ⟨g, k * 2, none⟩)) W := by
  have := index_any und39 (fun W => by rw [elem39]; exact sizeOf43 W) (c := c) ha hk W
  rwa [Nat.zero_add] at this

set_option maxRecDepth 100000 in
set_option maxHeartbeats 400000 in
theorem sequal (W : World) (b1 b2 : Nat) (v1 v2 : Value) (rs : List (Int × Int)) (h1 : Runs W b1 v1 rs) (h2 : Runs W b2 v2 rs) (hn : rs.length ≤ 1024) :
    Calls Yba.prog 10 #[v1, v2] W fun e W' => e = .returned (.bool true) ∧ ∃ q, W' = W.drewN q := by
  obtain ⟨a1, c1, g1, rfl, f1, r1⟩ := h1.form
  obtain ⟨a2, c2, g2, rfl, f2, r2⟩ := h2.form
  clear h1 h2
  obtain ⟨n, hn'⟩ : ∃ n, n = rs.length := ⟨_, rfl⟩
  rw [← hn'] at f1 r1 f2 r2 hn ⊢
  clear hn'
  have i1 := fun k (hk : k < n) => index39 (c := c1) (fun h => (f1 h).1) hk
  have i2 := fun k (hk : k < n) => index39 (c := c2) (fun h => (f2 h).1) hk
  go_enter Yba.func10, Yba.ntmps10
  go_wp2
  go_loopw [13] (fun i wr => ∃ k q : Nat, k ≤ n ∧ i = .int .i64 k ∧ wr = W.drewN q) (fun i _ => n - (intOf i).toNat)
  case atStart => exact ⟨0, 0, Nat.zero_le _, rfl, rfl⟩
  case round =>
    obtain ⟨k, q, hk, rfl, rfl⟩ := hrel
    by_cases hlt : k < n
    · have j1 := i1 k hlt
      have j2 := i2 k hlt
      obtain ⟨x1, x2⟩ := r1 k hlt
      obtain ⟨y1, y2⟩ := r2 k hlt
      clear i1 i2 r1 r2 f1 f2
      go_wp2
      go_quiet (fail)
      go_wp2
      go_roundw
      case rel => exact ⟨k + 1, q + nq, by omega, by go_num, rfl⟩
      case measure => simp [intOf]; omega
    · go_wp2
      go_ret
      exact ⟨rfl, q, rfl⟩

theorem run_assert26 (w : World) (v : Value) : (Instr.typeAssert (.iface 26 v) 20 26 false).run Yba.prog w = .ok v w := by
  simp [Instr.typeAssert, run_underlying Yba.underlying26, go_sem, Result.andThen]

theorem Mp_copy {W : World} {b n : Nat} {D : DataW Value} {es : Array MapEntry} {clock : Nat} (h : Mp W 9 b n D) (hb : W.heap[b]? = some (.map es clock)) : Mp (W.alloc (.map es clock)) 9 W.heap.size n D := by
  obtain ⟨es', clock', hb', r⟩ := h
  rw [hb] at hb'
  cases hb'
  exact ⟨es, clock, at_alloc W _, r⟩

set_option maxRecDepth 100000 in
set_option maxHeartbeats 400000 in
theorem mclone (W : World) (b n : Nat) (D : DataW Value) (h : Mp W 9 b n D) :
    Calls Yba.prog 17 #[.map (some b)] W fun e W' => e = .returned (.map (some W.heap.size)) ∧ Mp W' 9 W.heap.size n D ∧ Keep (fun _ => False) W W' ∧ W'.heap.size = W.heap.size + 1 := by
  obtain ⟨es, clock, hb, r⟩ := id h
  have hq := fun (w : World) (r : Option Nat) => run_eql_map_nil (P := Yba.prog) w 26 9 32 r Yba.underlying26
  have ha := run_assert26
  go_enter Yba.func17, Yba.ntmps17
  go_wp2
  rw [run_callFunc_extern Yba.func18 (by kernel_rfl) (by kernel_rfl) (by kernel_rfl) (e := Extern.MapsClone.clone) (by kernel_rfl), run_maps_clone_sl W 26 hb]
  simp only [Result.andThen]
  rw [Oper.upon_value]
  go_wp2
  go_ret
  exact ⟨rfl, Mp_copy h hb, (Keep.refl _ _).alloc _, by simp⟩

/-- A map value: nil, which reads as the empty map; or a block. -/
def MpO (W : World) (k : TypeId) (r : Option Nat) (n : Nat) (D : DataW Value) : Prop := (r = none ∧ D = .map []) ∨ ∃ b, r = some b ∧ Mp W k b n D

theorem MpO.isMap {W : World} {k : TypeId} {r : Option Nat} {n : Nat} {D : DataW Value} (h : MpO W k r n D) : IsMap D := by
  rcases h with ⟨_, rfl⟩ | ⟨b, _, h⟩
  · exact isMap_empty
  · exact h.isMap
theorem MpO.keep {W W' : World} {k : TypeId} {r : Option Nat} {n : Nat} {D : DataW Value} {S : Nat → Prop} (h : MpO W k r n D) (kk : Keep S W W') (hS : ∀ b, r = some b → ¬ S b) : MpO W' k r n D := by
  rcases h with ⟨h1, h2⟩ | ⟨b, rfl, h⟩
  · exact Or.inl ⟨h1, h2⟩
  · exact Or.inr ⟨b, rfl, h.keep kk (hS b rfl)⟩
theorem MpO.lt {W : World} {k : TypeId} {n b : Nat} {D : DataW Value} (h : MpO W k (some b) n D) : b < W.heap.size := by
  rcases h with ⟨h1, _⟩ | ⟨b', e, h⟩
  · cases h1
  · cases e; exact h.lt

section
variable (w : World) {ops : Array Oper} {rest : List Oper} {o : Oper} {a : Act} {Q : Exit → Act → World → Prop}

/-- 'm[k]', m nil or not. -/
theorem wpList_lookO (hg : Region.wanted o (yielded ops a.tmps) = true) (m x : Operand) (t : TypeId) (hop : o.op = Op.lookup t m x false)
    (k e : TypeId) (K : Keyed Yba.prog k) (ht : Yba.prog.underlying t = some (.map k e)) {z : Value} (hz : (zeroValue e).run Yba.prog w = .ok z w) (r : Option Nat) (n : Nat) (D : DataW Value)
    (hm : a.eval m = .map r) (hown : MpO w k r n D) (key : Value) (kl : Lit) (hx : a.eval x = key) (hkey : keyOf Yba.prog k key = some kl) (v : Value) (hv : look D kl z = v)
    (hK : wpList Yba.prog ops Q rest (a.put o.dst v) w) :
    wpList Yba.prog ops Q (o :: rest) a w := by
  rcases hown with ⟨rfl, rfl⟩ | ⟨b, rfl, hown⟩
  · refine wpList_wanted w hg fun K' hK' => ?_
    have hrun := Maps.look_nil (w := w) false K ht hz hkey
    rw [look_empty] at hv
    subst hv
    unfold Oper.wp
    simp [execOp, hop, hm, hx, hrun, Result.andThen]
    exact hK' _ _ hK
  · exact wpList_look w hg m x t hop k e K ht hz b n D hm hown key kl hx hkey v hv hK

/-- 'v, ok := m[k]', m nil or not. -/
theorem wpList_look_okO (hg : Region.wanted o (yielded ops a.tmps) = true) (m x : Operand) (t : TypeId) (hop : o.op = Op.lookup t m x true)
    (k e : TypeId) (K : Keyed Yba.prog k) (ht : Yba.prog.underlying t = some (.map k e)) {z : Value} (hz : (zeroValue e).run Yba.prog w = .ok z w) (r : Option Nat) (n : Nat) (D : DataW Value)
    (hm : a.eval m = .map r) (hown : MpO w k r n D) (key : Value) (kl : Lit) (hx : a.eval x = key) (hkey : keyOf Yba.prog k key = some kl) (v : Value) (hv : look D kl z = v) (y : Bool) (hy : has D kl = y)
    (hK : wpList Yba.prog ops Q rest (a.put o.dst (.tuple #[v, .bool y])) w) :
    wpList Yba.prog ops Q (o :: rest) a w := by
  rcases hown with ⟨rfl, rfl⟩ | ⟨b, rfl, hown⟩
  · refine wpList_wanted w hg fun K' hK' => ?_
    have hrun := Maps.look_nil (w := w) true K ht hz hkey
    rw [look_empty] at hv
    rw [has_empty] at hy
    subst hv
    subst hy
    unfold Oper.wp
    simp [execOp, hop, hm, hx, hrun, Result.andThen]
    exact hK' _ _ hK
  · exact wpList_look_ok w hg m x t hop k e K ht hz b n D hm hown key kl hx hkey v hv y hy hK

/-- 'len(m)', m nil or not. -/
theorem wpList_lenO (hg : Region.wanted o (yielded ops a.tmps) = true) (m : Operand) (t : TypeId) (hop : o.op = Op.call { callee := Callee.builtin Builtin.len, args := #[m], argTypes := #[t] })
    (k e : TypeId) (ht : Yba.prog.underlying t = some (.map k e)) (r : Option Nat) (n : Nat) (D : DataW Value) (hm : a.eval m = .map r) (hown : MpO w k r n D) (c : Nat) (hc : size D = c)
    (hK : wpList Yba.prog ops Q rest (a.put o.dst (.int .i64 c)) w) :
    wpList Yba.prog ops Q (o :: rest) a w := by
  rcases hown with ⟨rfl, rfl⟩ | ⟨b, rfl, hown⟩
  · refine wpList_wanted w hg fun K' hK' => ?_
    rw [size_empty] at hc
    subst hc
    unfold Oper.wp
    simp [execOp, hop, resolve, invoke, builtin, hm, Maps.len_nil (w := w) ht o.type, Result.andThen]
    exact hK' _ _ hK
  · exact wpList_len_is w hg m t hop k e ht b n D hm hown c hc hK

end

set_option maxRecDepth 100000 in
set_option maxHeartbeats 400000 in
theorem cmap (W : World) (r : Option Nat) (n : Nat) (D : DataW Value) (h : MpO W 9 r n D) :
    Calls Yba.prog 14 #[.map r] W fun e W' => e = .returned (.map (some W.heap.size)) ∧ Mp W' 9 W.heap.size n D ∧ Keep (fun _ => False) W W' ∧ W'.heap.size = W.heap.size + 1 := by
  have hq := fun (w : World) (r : Option Nat) => run_eql_map_nil (P := Yba.prog) w 26 9 32 r Yba.underlying26
  have hmm := @run_makeMap Yba.prog
  rcases h with ⟨rfl, rfl⟩ | ⟨b, rfl, h⟩
  · go_enter Yba.func14, Yba.ntmps14
    go_wp2
    go_ret
    exact ⟨rfl, (Mp_made W 9).mono (Nat.zero_le _), (Keep.refl _ _).alloc _, by simp⟩
  · go_enter Yba.func14, Yba.ntmps14
    go_wp2_with (go_at_call 17; refine (mclone _ b n D h).mono ?_)
    rintro e w1 ⟨rfl, h1, h2, h3⟩
    go_wp2
    go_ret
    exact ⟨rfl, h1, h2, h3⟩

end Go.Proofs.Ybulkcxce.Ctx
