import Derived.Test.YbulkcxceCtxB
namespace Go.Proofs.Ybulkcxce.Ctx
open Go Go.Maps Go.RowKit
set_option linter.unusedVariables false

def kS (s : ByteArray) : Lit := .string s.data.toList
theorem isKey (s : ByteArray) : WideAt.IsKeyLit (kS s) := trivial

/-- Every element is a uint64. -/
def IntMap (D : DataW Value) : Prop := ∀ kl, WideAt.IsKeyLit kl → ∃ x, look D kl (.int .u64 0) = .int .u64 x
/-- Every element is a slice of runs, 1024 at most, in memory from block base on. -/
def RunMap (W : World) (base : Nat) (D : DataW Value) : Prop := ∀ kl, WideAt.IsKeyLit kl → ∃ rs, rs.length ≤ 1024 ∧ Runs W base (look D kl (.slice none 0 0)) rs

theorem IntMap_nil : IntMap (.map []) := fun kl _ => ⟨0, rfl⟩
theorem IntMap.put {D : DataW Value} (h : IntMap D) (hD : IsMap D) (kl : Lit) (hk : WideAt.IsKeyLit kl) (x : Int) : IntMap (D.put kl (.held (.int .u64 x))) := by
  intro kl' hk'
  by_cases e : kl' = kl
  · subst e; exact ⟨x, look_put_same hD hk _ _⟩
  · rw [look_put_other e]; exact h kl' hk'
theorem Runs_nil (W : World) (base : Nat) : Runs W base (.slice none 0 0) [] := ⟨rfl, Or.inl ⟨rfl, rfl⟩⟩
theorem RunMap_nil (W : World) (base : Nat) : RunMap W base (.map []) := fun kl _ => ⟨[], by simp, Runs_nil W base⟩
theorem RunMap.put {W : World} {base : Nat} {D : DataW Value} (h : RunMap W base D) (hD : IsMap D) (kl : Lit) (hk : WideAt.IsKeyLit kl) {v : Value} {rs : List (Int × Int)} (hv : Runs W base v rs) (hn : rs.length ≤ 1024) : RunMap W base (D.put kl (.held v)) := by
  intro kl' hk'
  by_cases e : kl' = kl
  · subst e; exact ⟨rs, hn, by rw [look_put_same hD hk]; exact hv⟩
  · rw [look_put_other e]; exact h kl' hk'

/-- A row's block is no map's. -/
theorem Runs.ne_map {W : World} {base : Nat} {v : Value} {rs : List (Int × Int)} (h : Runs W base v rs) {bm : Nat} {es : Array MapEntry} {cl : Nat} (hb : W.heap[bm]? = some (.map es cl)) {g : Nat} (hg : v.ownBlock = some g) : g ≠ bm := by
  obtain ⟨h1, h2⟩ := h
  rcases h2 with ⟨rfl, _⟩ | ⟨g', cap, cur, rfl, _, hb', _⟩
  · cases hg
  · simp [Value.ownBlock] at hg
    subst hg
    intro e
    rw [e, hb] at hb'
    cases hb'
theorem Runs.lt {W : World} {base : Nat} {v : Value} {rs : List (Int × Int)} (h : Runs W base v rs) {g : Nat} (hg : v.ownBlock = some g) : g < W.heap.size ∧ base ≤ g := by
  obtain ⟨h1, h2⟩ := h
  rcases h2 with ⟨rfl, _⟩ | ⟨g', cap, cur, rfl, hb, hb', _⟩
  · cases hg
  · simp [Value.ownBlock] at hg
    subst hg
    exact ⟨lt_of_block hb', hb⟩
theorem Mp.block {W : World} {k b n : Nat} {D : DataW Value} (h : Mp W k b n D) : ∃ es cl, W.heap[b]? = some (.map es cl) := by
  obtain ⟨es, cl, hb, _⟩ := h
  exact ⟨es, cl, hb⟩
/-- The rows stay while one map is written. -/
theorem RunMap.keep {W W' : World} {base bm n : Nat} {D D' : DataW Value} {S : Nat → Prop} (h : RunMap W base D) (k : Keep S W W') (hm : Mp W 9 bm n D') (hS : ∀ i, i < W.heap.size → S i → i = bm) : RunMap W' base D := by
  intro kl hk
  obtain ⟨rs, hn, hr⟩ := h kl hk
  obtain ⟨es, cl, hb⟩ := Mp.block hm
  exact ⟨rs, hn, hr.keep k (fun g hg hSg => hr.ne_map hb hg (hS g (hr.lt hg).1 hSg))⟩

theorem lt_of_cell {w : World} {a : Addr} {v : Value} (h : w.cell? a = some v) : a.block < w.heap.size := by
  unfold World.cell? at h
  split at h
  · rename_i hb; exact lt_of_block hb
  · cases h
theorem cell_al {w : World} {a : Addr} {v : Value} (h : w.cell? a = some v) (o : Obj) : (w.alloc o).cell? a = some v := (World.cell?_of_block (w := w) (old_alloc w o (lt_of_cell h))).trans h

theorem Runs.base {W : World} {base base' : Nat} {v : Value} {rs : List (Int × Int)} (h : Runs W base v rs) (hb : base' ≤ base) : Runs W base' v rs := by
  obtain ⟨h1, h2⟩ := h
  refine ⟨h1, ?_⟩
  rcases h2 with h2 | ⟨g, cap, cur, rfl, hg, r⟩
  · exact Or.inl h2
  · exact Or.inr ⟨g, cap, cur, rfl, by omega, r⟩
theorem RunMap.base {W : World} {base base' : Nat} {D : DataW Value} (h : RunMap W base D) (hb : base' ≤ base) : RunMap W base' D := fun kl hk => by
  obtain ⟨rs, hn, hr⟩ := h kl hk
  exact ⟨rs, hn, hr.base hb⟩
/-- The rows stay while blocks below them are written. -/
theorem RunMap.above {W W' : World} {base : Nat} {D : DataW Value} {S : Nat → Prop} (h : RunMap W base D) (k : Keep S W W') (hS : ∀ i, i < W.heap.size → S i → i < base) : RunMap W' base D := fun kl hk => by
  obtain ⟨rs, hn, hr⟩ := h kl hk
  exact ⟨rs, hn, hr.keep k (fun g hg hSg => by have := hr.lt hg; have := hS g this.1 hSg; omega)⟩

/-- The struct's result, behind the call. -/
structure Built (W W' : World) (nv nc : Bool) (n1 n2 : Nat) (mv mc : Option Nat) (Dv Dc : DataW Value) : Prop where
  v : MpO W' 9 mv n1 Dv
  ints : IntMap Dv
  c : MpO W' 9 mc n2 Dc
  runs : RunMap W' W.heap.size Dc
  vn : nv = false → ∃ b, mv = some b
  cn : nc = false → ∃ b, mc = some b
  keep : Keep (fun _ => False) W W'
  vb : ∀ b, mv = some b → W.heap.size ≤ b
  cb : ∀ b, mc = some b → W.heap.size ≤ b

/-- The two variables of 'build': the result's cell and c. -/
structure Bd (W wx : World) (mv mc : Option Nat) : Prop where
  res : wx.heap[W.heap.size]? = some (.cells #[.map none, .map none] 29 (0, 0))
  var : wx.heap[W.heap.size + 1]? = some (.cells #[.map mv, .map mc] 29 (0, 0))
  keep : Keep (fun _ => False) W wx
  big : W.heap.size + 2 ≤ wx.heap.size

theorem Bd.grow {W wx wy : World} {mv mc : Option Nat} {S : Nat → Prop} (h : Bd W wx mv mc) (k : Keep S wx wy) (hS : ∀ i, S i → W.heap.size + 2 ≤ i) : Bd W wy mv mc := by
  have hb := h.big
  refine ⟨(k.block _ (by omega) (fun e => by have := hS _ e; omega)).trans h.res, (k.block _ (by omega) (fun e => by have := hS _ e; omega)).trans h.var, ?_, Nat.le_trans hb k.size⟩
  exact ⟨k.os.trans h.keep.os, k.tape.trans h.keep.tape, k.output.trans h.keep.output, Nat.le_trans h.keep.size k.size, fun i hi _ => (k.block i (by omega) (fun e => by have := hS _ e; omega)).trans (h.keep.block i hi (fun e => e))⟩

theorem start8 (W : World) : Bd W ((W.alloc (.cells #[.map none, .map none] 29)).alloc (.cells #[.map none, .map none] 29)) none none ∧
    Bd W (((W.alloc (.cells #[.map none, .map none] 29)).alloc (.cells #[.map (some (W.heap.size + 1 + 1)), .map none] 29)).alloc (.map #[] 0)) (some (W.heap.size + 2)) none ∧
    Mp (((W.alloc (.cells #[.map none, .map none] 29)).alloc (.cells #[.map (some (W.heap.size + 1 + 1)), .map none] 29)).alloc (.map #[] 0)) 9 (W.heap.size + 2) 0 (.map []) := by
  have at1 : ∀ o : Obj, (W.alloc o).heap.size = W.heap.size + 1 := fun o => by simp
  refine ⟨⟨?_, ?_, ((Keep.refl _ _).alloc _).alloc _, by simp⟩, ⟨?_, ?_, (((Keep.refl _ _).alloc _).alloc _).alloc _, by simp⟩, ?_⟩
  · rw [old_alloc _ _ (by simp), at_alloc]
  · have := at_alloc (W.alloc (.cells #[.map none, .map none] 29)) (.cells #[.map none, .map none] 29)
    rw [at1] at this
    exact this
  · rw [old_alloc _ _ (by simp; omega), old_alloc _ _ (by simp), at_alloc]
  · rw [old_alloc _ _ (by simp)]
    have := at_alloc (W.alloc (.cells #[.map none, .map none] 29)) (.cells #[.map (some (W.heap.size + 1 + 1)), .map none] 29)
    rw [at1] at this
    exact this
  · have := Mp_made ((W.alloc (.cells #[.map none, .map none] 29)).alloc (.cells #[.map (some (W.heap.size + 1 + 1)), .map none] 29)) 9
    rw [show ((W.alloc (.cells #[.map none, .map none] 29)).alloc (.cells #[.map (some (W.heap.size + 1 + 1)), .map none] 29)).heap.size = W.heap.size + 2 by simp] at this
    exact this

theorem start10 {W wc X : World} {mv : Option Nat} {n1 : Nat} {Dv : DataW Value} (hB : Bd W wc mv none) (hM : MpO wc 9 mv n1 Dv) (hvb : ∀ b, mv = some b → b = W.heap.size + 2) (hX : X = (wc.alloc (.map #[] 0)).setCell ⟨W.heap.size + 1, 1, none⟩ (.map (some wc.heap.size))) :
    Bd W X mv (some wc.heap.size) ∧ MpO X 9 mv n1 Dv ∧ Mp X 9 wc.heap.size 0 (.map []) := by
  have hb := hB.big
  have kX : Keep (fun i => i = W.heap.size + 1) wc X := by
    subst hX
    exact ((Keep.refl (fun i => i = W.heap.size + 1) wc).alloc _).setCell (p := ⟨W.heap.size + 1, 1, none⟩) (fun _ => rfl) _
  refine ⟨⟨(kX.block _ (by omega) (by omega)).trans hB.res, ?_, ?_, Nat.le_trans hb kX.size⟩, hM.keep kX (fun b e => by have := hvb b e; omega), ?_⟩
  · subst hX
    rw [block_setCell ((old_alloc wc _ (by omega)).trans hB.var)]
    rfl
  · exact ⟨kX.os.trans hB.keep.os, kX.tape.trans hB.keep.tape, kX.output.trans hB.keep.output, Nat.le_trans hB.keep.size kX.size, fun i hi _ => (kX.block i (by omega) (by omega)).trans (hB.keep.block i hi (fun e => e))⟩
  · subst hX
    exact (Mp_made wc 9).setCell (show wc.heap.size ≠ W.heap.size + 1 by omega) _

def zr (l : Nat) : Array Value := madeCells #[.int .u64 0, .int .u64 0] (l * 2)
theorem zr_size (l : Nat) : (zr l).size = l * 2 := size_madeCells _ _
theorem make39 (l : Nat) (hl : l ≤ 1024) (w : World) :
    (Instr.makeSlice 39 (.int .i64 0) (.int .i64 l)).run Yba.prog w = .ok (.slice (some ⟨w.heap.size, 0, none⟩) 0 l) (w.alloc (.cells (zr l) 43)) := by
  obtain ⟨i0, hi0, hz0, hz1, hz2⟩ := info43
  have := run_make (P := Yba.prog) w 39 43 i0 _ Yba.underlying39 hi0 hz0 .i64 .i64 0 l (by omega) (by omega) (by rw [hz2]; omega) (by omega)
  rw [hz1, Int.toNat_natCast] at this
  exact this

theorem two_new (w : World) (o : Obj) (a b : Value) (t : TypeId) : ∀ j u, [a, b][j]? = some u → ((w.alloc o).alloc (.cells #[a, b] t)).cell? ((⟨w.heap.size + 1, 0, none⟩ : Addr).add j) = some u := by
  have := cell_two_new (w.alloc o) a b t
  rwa [show (w.alloc o).heap.size = w.heap.size + 1 by simp] at this
theorem two_one (a b : Int) : ∀ u ∈ [Value.int .u64 a, .int .u64 b], u.oneCell' = true := by
  intro u hu
  simp at hu
  rcases hu with rfl | rfl <;> rfl
theorem cellsR_take {rs : List (Int × Int)} {j : Nat} (h : j < rs.length) : cellsR (rs.take (j + 1)) = cellsR (rs.take j) ++ [.int .u64 (lo rs j), .int .u64 (hi rs j)] := by
  rw [List.take_succ_eq_append_getElem h, cellsR_snoc]
  simp [lo, hi, List.getD_eq_getElem?_getD, h]
theorem keep_far {S T : Nat → Prop} {W W' W'' : World} (h : Keep S W W') (k : Keep T W' W'') (hT : ∀ i, T i → W.heap.size ≤ i) : Keep S W W'' :=
  ⟨k.os.trans h.os, k.tape.trans h.tape, k.output.trans h.output, Nat.le_trans h.size k.size, fun i hi hS => (k.block i (Nat.lt_of_lt_of_le hi h.size) (fun e => by have := hT i e; omega)).trans (h.block i hi hS)⟩

theorem start19 {wo X : World} {rs : List (Int × Int)} {nm : ByteArray} {v : Value} (hl : rs.length ≤ 1024) (hX : X = (wo.alloc (.cells #[.string nm, v] 38)).alloc (.cells (zr rs.length) 43)) :
    ∃ j : Nat, j ≤ rs.length ∧ Value.int .i64 0 = .int .i64 j ∧ Value.slice (some ⟨wo.heap.size + 1, 0, none⟩) 0 rs.length = .slice (some ⟨wo.heap.size + 1, 0, none⟩) j rs.length ∧
      X.ownsRow (wo.heap.size + 1) 43 2 (.slice (some ⟨wo.heap.size + 1, 0, none⟩) j rs.length) j (cellsR (rs.take j)) ∧ Keep (fun _ => False) wo X ∧ X.cell? ⟨wo.heap.size, 0, none⟩ = some (.string nm) ∧ wo.heap.size + 2 ≤ X.heap.size := by
  have hb := at_alloc (wo.alloc (.cells #[.string nm, v] 38)) (.cells (zr rs.length) 43)
  rw [show (wo.alloc (.cells #[.string nm, v] 38)).heap.size = wo.heap.size + 1 by simp] at hb
  have h0 : (wo.alloc (.cells #[.string nm, v] 38)).cell? ⟨wo.heap.size, 0, none⟩ = some (.string nm) := cell_block (at_alloc wo (.cells #[.string nm, v] 38)) 0
  subst hX
  exact ⟨0, Nat.zero_le _, rfl, rfl, ⟨rfl, Or.inr ⟨wo.heap.size + 1, rs.length, _, rfl, Nat.le_refl _, hb, Nat.zero_le _, by unfold maxLen; omega, zr_size _, by simp [cellsR]⟩⟩, ((Keep.refl _ _).alloc _).alloc _, cell_al h0 _, by simp⟩

/-- What a round of the second loop leaves. -/
theorem fin22 {W wo wr w1 : World} {mv : Option Nat} {n1 bm k : Nat} {Dv D : DataW Value} {v : Value} {rs : List (Int × Int)} {kl : Lit} (hbm : W.heap.size + 2 ≤ bm) (hne : ∀ b, mv = some b → b ≠ bm) (hB : Bd W wo mv (some bm)) (hM : MpO wo 9 mv n1 Dv) (hD : Mp wo 9 bm k D) (hR : RunMap wo (W.heap.size + 2) D)
    (hK : Keep (fun _ => False) wo wr) (hv : Runs wr (W.heap.size + 2) v rs) (hl : rs.length ≤ 1024) (hkl : WideAt.IsKeyLit kl) (hg : wr.grownBy w1 (some bm)) :
    Bd W w1 mv (some bm) ∧ MpO w1 9 mv n1 Dv ∧ RunMap w1 (W.heap.size + 2) (D.put kl (.held v)) := by
  have k1 : Keep (fun i => i = bm) wr w1 := (Keep.refl _ _).grown hg (fun j hj _ => by simpa using hj.symm)
  have k2 : Keep (fun i => i = bm) wo w1 := (hK.mono (fun _ _ e => e.elim)).trans k1
  have hD1 := hD.keep hK (fun e => e)
  have hR1 := ((hR.keep hK hD (fun _ _ e => e.elim)).put hD.isMap kl hkl hv hl).keep k1 hD1 (fun i _ e => e)
  exact ⟨hB.grow k2 (fun i e => by omega), hM.keep k2 (fun b e => hne b e), hR1⟩

set_option maxRecDepth 100000 in
set_option maxHeartbeats 1000000 in
theorem build (W : World) (nv nc : Bool) (a1 a2 : Option Addr) (n1 n2 c1 c2 b1 o1 b2 o2 : Nat) (nm cm : Nat → ByteArray) (nn : Nat → Int) (ra : Nat → Option Addr) (rc : Nat → Nat) (rs : Nat → List (Int × Int)) (rb ro : Nat → Nat)
    (hV : VVin W a1 n1 nm nn b1 o1) (hC : CLin W a2 n2 cm ra rc rs b2 o2 rb ro) (hs : Small n1 n2 rs) :
    Calls Yba.prog 8 #[.bool nv, .bool nc, .slice a1 n1 c1, .slice a2 n2 c2] W fun e W' => ∃ mv mc Dv Dc, e = .returned (.agg #[.map mv, .map mc]) ∧ Built W W' nv nc n1 n2 mv mc Dv Dc := by
  obtain ⟨s1, s2, s3⟩ := hs
  have hmm := @run_makeMap Yba.prog
  go_enter Yba.func8, Yba.ntmps8
  go_upto_if 18 with fail
  go_cut [0, 11] from 17 to 33 (fun s0 s11 wx => ∃ (mv : Option Nat) (Dv : DataW Value), s0 = .bool nv ∧ Bd W wx mv none ∧ MpO wx 9 mv n1 Dv ∧ IntMap Dv ∧ (nv = false → ∃ b, mv = some b) ∧ ∀ b, mv = some b → b = W.heap.size + 2)
  case first =>
    cases hnv : nv
    · go_wp2
      go_loopw [23] (fun i wr => ∃ (k : Nat) (D : DataW Value), k ≤ n1 ∧ i = .int .i64 k ∧ Bd W wr (some (W.heap.size + 2)) none ∧ Mp wr 9 (W.heap.size + 2) k D ∧ IntMap D) (fun i _ => n1 - (intOf i).toNat)
      case atStart => exact ⟨0, .map [], Nat.zero_le _, rfl, (start8 W).2.1, (start8 W).2.2, IntMap_nil⟩
      case round =>
        obtain ⟨k, D, hk, rfl, hB, hM, hI⟩ := hrel
        by_cases hlt : k < n1
        · have hix := index22 hV.at_ hlt c1
          have hV1 := hV.keep hB.keep (fun _ _ h => h)
          have d0 := hV1.c0 k hlt
          have d1 := hV1.c1 k hlt
          have hb := hV1.blk (by omega)
          have hkey := keyS (hV.sz k hlt)
          have e0 : wr.cell? ⟨W.heap.size + 1, 0, none⟩ = some (.map (some (W.heap.size + 2))) := cell_block hB.var 0
          have e1 := cell_al e0
          have hbig := hB.big
          clear e0
          go_wp2_with (at_mapUpdate; refine wpList_put _ rfl _ _ _ 26 rfl 9 32 lawS Yba.underlying26 _ _ _ rfl (hM.alloc _) (by unfold maxLen; omega) _ _ _ rfl rfl hkey ?_)
          intro w1 hM1 hg1 hz1
          have k1 : Keep (fun i => i = W.heap.size + 2) wr w1 := ((Keep.refl (fun i => i = W.heap.size + 2) wr).alloc _).grown hg1 (fun j hj _ => by simpa using hj.symm)
          have hB1 := hB.grow k1 (fun i e => by omega)
          have hI1 := hI.put hM.isMap (kS (nm k)) (isKey _) (nn k)
          clear hM hI hB e1 d0 d1 k1 hg1
          go_wp2
          go_roundw
          case rel => (repeat apply Exists.intro); exact ⟨⟨k + 1, _, by omega, by go_num, hB1, hM1, hI1⟩, rfl⟩
          case measure => simp [intOf]; omega
        · go_wp2
          go_meet
          case rel => exact ⟨_, D, congrArg Value.bool hnv.symm, hB, Or.inr ⟨_, rfl, hM.mono hk⟩, hI, fun _ => ⟨_, rfl⟩, fun b e => (Option.some.inj e).symm⟩
    · go_wp2
      go_meet
      case rel => exact ⟨none, .map [], congrArg Value.bool hnv.symm, (start8 W).1, Or.inl ⟨rfl, rfl⟩, IntMap_nil, fun e => Bool.noConfusion (hnv.symm.trans e), fun b e => by cases e⟩
  case rest =>
    obtain ⟨mv, Dv, rfl, hB, hM, hI, hvn, hvb⟩ := hcut
    go_upto_if 35 with fail
    go_cut [1, 13, 14, 16] from 34 to 72 (fun s1 _ _ _ wx => ∃ (mc : Option Nat) (Dc : DataW Value), s1 = .bool nc ∧ Bd W wx mv mc ∧ MpO wx 9 mv n1 Dv ∧ MpO wx 9 mc n2 Dc ∧ RunMap wx (W.heap.size + 2) Dc ∧ (nc = false → ∃ b, mc = some b) ∧ ∀ b, mc = some b → W.heap.size + 2 ≤ b)
    case first =>
      cases hnc : nc
      · have v0 : wc.cell? ⟨W.heap.size + 1, 1, none⟩ = some (.map none) := cell_block hB.var 1
        have v1 := cell_al v0
        have v2 := free_block hB.var 1
        have v3 : ∀ o, (wc.alloc o).frozen? ⟨W.heap.size + 1, 1, none⟩ = false := fun o => (World.frozen?_of_block (w := wc) (old_alloc wc o (lt_of_cell v0))).trans v2
        obtain ⟨hBm, hMm, hVm⟩ := start10 hB hM hvb rfl
        clear v0
        go_wp2
        go_loopw [40] (fun i wr => ∃ (k : Nat) (D : DataW Value), k ≤ n2 ∧ i = .int .i64 k ∧ Bd W wr mv (some wc.heap.size) ∧ MpO wr 9 mv n1 Dv ∧ Mp wr 9 wc.heap.size k D ∧ RunMap wr (W.heap.size + 2) D) (fun i _ => n2 - (intOf i).toNat)
        case atStart => exact ⟨0, .map [], Nat.zero_le _, rfl, hBm, hMm, hVm, RunMap_nil _ _⟩
        case round =>
          have hbm : W.heap.size + 2 ≤ wc.heap.size := hB.big
          have hne2 : ∀ b, mv = some b → b ≠ wc.heap.size := fun b e => by subst e; have := hM.lt; omega
          clear hBm hMm hVm v1 v2 v3 hB hM
          obtain ⟨k, D, hk, rfl, hB, hM, hD, hR⟩ := hrel
          obtain ⟨wo, rfl⟩ : ∃ wo : World, wo = wr := ⟨_, rfl⟩
          by_cases hlt : k < n2
          · have hix := index23 hC.at_ hlt c2
            have hC1 := hC.keep hB.keep (fun _ _ h => h)
            have d0 := hC1.c0 k hlt
            have d1 := hC1.c1 k hlt
            have hb := hC1.blk (by omega)
            have hkey := keyS (hC.sz k hlt)
            have hl := s3 k hlt
            have hn36 := fun (w : World) (a : Option Addr) (n c : Nat) => run_neq_slice_nil_any (P := Yba.prog) w 36 78 a n c 0 0 Yba.underlying36
            have hbig := hB.big
            have hrat := hC1.rat k hlt
            have hr0 := hC1.r0 k hlt
            have hr1 := hC1.r1 k hlt
            have hmk := make39 (rs k).length hl
            clear hC1
            rcases hra : ra k with _ | ad
            · have hl0 : (rs k).length = 0 := by
                rcases Nat.eq_zero_or_pos (rs k).length with h | h
                · exact h
                · have := (hrat h).1
                  rw [hra] at this
                  cases this
              rw [hra, hl0] at d1
              have hnil : rs k = [] := List.length_eq_zero_iff.1 hl0
              have Hnil : Hid (rs k = []) := hnil
              clear hrat hr0 hr1 hl0 hnil hmk hl
              go_wp2_with fail
              go_loopw [14, 16, 54] (fun v _ i wr => i = .int .i64 0 ∧ v = .slice none 0 0 ∧ Keep (fun _ => False) wo wr ∧ wr.cell? ⟨wo.heap.size, 0, none⟩ = some (.string (cm k))) (fun _ _ i _ => 0)
              case atStart => exact ⟨rfl, rfl, (Keep.refl _ _).alloc _, cell_block (at_alloc wo _) 0⟩
              case round =>
                obtain ⟨rfl, rfl, hK, hnm⟩ := hrel
                have e1 : wr.cell? ⟨W.heap.size + 1, 1, none⟩ = some (.map (some wc.heap.size)) := (hK.cell (p := ⟨W.heap.size + 1, 1, none⟩) (show W.heap.size + 1 < _ by omega) (fun e => e)).trans (cell_block hB.var 1)
                have hD1 := hD.keep hK (fun e => e)
                go_wp2_with (at_mapUpdate; refine wpList_put _ rfl _ _ _ 27 rfl 9 39 lawS Yba.underlying27 _ _ _ rfl hD1 (by unfold maxLen; omega) _ _ _ rfl rfl hkey ?_)
                intro w1 hM1 hg1 hz1
                obtain ⟨f1, f2, f3⟩ := fin22 hbm hne2 hB hM hD hR hK (Runs_nil wr _) (by simp) (isKey (cm k)) hg1
                clear hK hnm e1 hD1 hD hR hB hM hg1 d0 d1 hix
                go_wp2
                go_roundw
                case rel => (repeat apply Exists.intro); exact ⟨⟨k + 1, _, by omega, by go_num, f1, f2, hM1, f3⟩, rfl⟩
                case measure => simp [intOf]; omega
            · rw [hra] at d1 hrat
              go_wp2_with fail
              go_loopw [14, 16, 54] (fun v _ i wr => ∃ j : Nat, j ≤ (rs k).length ∧ i = .int .i64 j ∧ v = .slice (some ⟨wo.heap.size + 1, 0, none⟩) j (rs k).length ∧ wr.ownsRow (wo.heap.size + 1) 43 2 (.slice (some ⟨wo.heap.size + 1, 0, none⟩) j (rs k).length) j (cellsR ((rs k).take j)) ∧ Keep (fun _ => False) wo wr ∧ wr.cell? ⟨wo.heap.size, 0, none⟩ = some (.string (cm k)) ∧ wo.heap.size + 2 ≤ wr.heap.size) (fun _ _ i _ => (rs k).length - (intOf i).toNat)
              case atStart => exact start19 hl rfl
              case round =>
                obtain ⟨j, hj, rfl, rfl, hown, hK, hnm, hsz⟩ := hrel
                by_cases hjl : j < (rs k).length
                · have hi2 := index36 (fun h => (hrat h).1) hjl (rc k)
                  have hblt : rb k < wo.heap.size := (hrat (by omega)).2
                  have q0 : wr.cell? ⟨rb k, ro k + j * 2, none⟩ = some (.int .u64 (lo (rs k) j)) := (hK.cell (p := ⟨rb k, _, none⟩) hblt (fun e => e)).trans (hr0 j hjl)
                  have q1 : wr.cell? ⟨rb k, ro k + j * 2 + 1, none⟩ = some (.int .u64 (hi (rs k) j)) := (hK.cell (p := ⟨rb k, _, none⟩) hblt (fun e => e)).trans (hr1 j hjl)
                  obtain ⟨i0, hi0, hz0, hz1, hz2⟩ := info43
                  clear hix d0 d1 hrat hr0 hr1
                  go_wp2_with (at_builtin; refine wpList_append_fits _ rfl (.tmp 58) (.tmp 64) 39 rfl (wo.heap.size + 1) 43 i0 2 Yba.underlying39 hi0 hz1 (wo.heap.size + 1) j (rs k).length _ rfl ((hown.alloc _).alloc _) ⟨wr.heap.size + 1, 0, none⟩ 1 1 [.int .u64 (lo (rs k) j), .int .u64 (hi (rs k) j)] rfl rfl ?cnew ?cone (by omega) ?_)
                  case cnew => exact two_new _ _ _ _ _
                  case cone => exact two_one _ _
                  intro w1 hown1 hg1
                  have k1 : Keep (fun i => i = wo.heap.size + 1) wr w1 := (((Keep.refl (fun i => i = wo.heap.size + 1) wr).alloc _).alloc _).grown hg1 (fun j hj _ => by simpa using hj.symm)
                  have hK1 : Keep (fun _ => False) wo w1 := keep_far hK k1 (fun i e => by omega)
                  have hnm1 : w1.cell? ⟨wo.heap.size, 0, none⟩ = some (.string (cm k)) := (k1.cell (p := ⟨wo.heap.size, 0, none⟩) (show wo.heap.size < _ by omega) (show ¬ wo.heap.size = wo.heap.size + 1 by omega)).trans hnm
                  have hsz1 := Nat.le_trans hsz k1.size
                  rw [← cellsR_take hjl] at hown1
                  clear hK hown hnm hsz q0 q1 k1 hg1
                  go_wp2
                  go_roundw
                  case rel => (repeat apply Exists.intro); exact ⟨⟨j + 1, by omega, by go_num, rfl, hown1, hK1, hnm1, hsz1⟩, rfl⟩
                  case measure => simp [intOf]; omega
                · obtain rfl : (rs k).length = j := by omega
                  rw [List.take_length] at hown
                  have e1 : wr.cell? ⟨W.heap.size + 1, 1, none⟩ = some (.map (some wc.heap.size)) := (hK.cell (p := ⟨W.heap.size + 1, 1, none⟩) (show W.heap.size + 1 < _ by omega) (fun e => e)).trans (cell_block hB.var 1)
                  have hD1 := hD.keep hK (fun e => e)
                  go_wp2_with (at_mapUpdate; refine wpList_put _ rfl _ _ _ 27 rfl 9 39 lawS Yba.underlying27 _ _ _ rfl hD1 (by unfold maxLen; omega) _ _ _ rfl rfl hkey ?_)
                  intro w1 hM1 hg1 hz1
                  obtain ⟨f1, f2, f3⟩ := fin22 hbm hne2 hB hM hD hR hK (Runs.base hown (by omega)) hl (isKey (cm k)) hg1
                  clear hK hown hnm hsz e1 hD1 hD hR hB hM hg1 d0 d1 hrat hr0 hr1 hix
                  go_wp2
                  go_roundw
                  case rel => (repeat apply Exists.intro); exact ⟨⟨k + 1, _, by omega, by go_num, f1, f2, hM1, f3⟩, rfl⟩
                  case measure => simp [intOf]; omega
          · go_wp2
            go_meet
            case rel => exact ⟨_, D, congrArg Value.bool hnc.symm, hB, hM, Or.inr ⟨_, rfl, hD.mono hk⟩, hR, fun _ => ⟨_, rfl⟩, fun b e => by cases e; omega⟩
      · go_wp2
        go_meet
        case rel => exact ⟨none, .map [], congrArg Value.bool hnc.symm, hB, hM, Or.inl ⟨rfl, rfl⟩, RunMap_nil _ _, fun e => Bool.noConfusion (hnc.symm.trans e), fun b e => by cases e⟩
    case rest =>
      obtain ⟨mc, Dc, rfl, hB2, hM2, hC2, hR2, hcn, hcb⟩ := hcut
      have v0 : wc.cell? ⟨W.heap.size + 1, 0, none⟩ = some (.map mv) := cell_block hB2.var 0
      have v1 : wc.cell? ⟨W.heap.size + 1, 1, none⟩ = some (.map mc) := cell_block hB2.var 1
      have r0 : wc.cell? ⟨W.heap.size, 0, none⟩ = some (.map none) := cell_block hB2.res 0
      have r1 : wc.cell? ⟨W.heap.size, 1, none⟩ = some (.map none) := cell_block hB2.res 1
      have r2 := free_block hB2.res 0
      have r3 := free_block hB2.res 1
      go_wp2
      refine bodyPost_ret (v := .agg #[.map mv, .map mc]) (by simp [results, Yba.results8, go_sem, r0, r1]) rfl ⟨mv, mc, Dv, Dc, rfl, ?_⟩
      have hb := hB2.big
      have kX : Keep (fun i => i = W.heap.size) wc ((wc.setCell ⟨W.heap.size, 0, none⟩ (.map mv)).setCell ⟨W.heap.size, 1, none⟩ (.map mc)) :=
        ((Keep.refl (fun i => i = W.heap.size) wc).setCell (p := ⟨W.heap.size, 0, none⟩) (fun _ => rfl) _).setCell (p := ⟨W.heap.size, 1, none⟩) (fun _ => rfl) _
      have kW := (hB2.keep.setCell (p := ⟨W.heap.size, 0, none⟩) (fun h => absurd h (Nat.lt_irrefl _)) (.map mv)).setCell (p := ⟨W.heap.size, 1, none⟩) (fun h => absurd h (Nat.lt_irrefl _)) (.map mc)
      exact ⟨hM2.keep kX (fun b e => by have := hvb b e; omega), hI, hC2.keep kX (fun b e => by have := hcb b e; omega), (hR2.above kX (fun i _ e => by omega)).base (by omega), hvn, hcn, kW, fun b e => by have := hvb b e; omega, fun b e => by have := hcb b e; omega⟩

end Go.Proofs.Ybulkcxce.Ctx
