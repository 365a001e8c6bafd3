import Derived.Test.YbulkcxceCtxC
import Derived.Maps.Ext
namespace Go.Proofs.Ybulkcxce.Ctx
open Go Go.Maps Go.RowKit
set_option linter.unusedVariables false

/-! ### two maps with the same keys have the same size -/
def bare (es : List (Lit × DataW Value)) : List (Lit × DataW Value) := es.map fun p => (p.1, .nil)
theorem has_bare (es : List (Lit × DataW Value)) (k : Lit) : has (.map (bare es)) k = has (.map es) k := by
  show (bare es).any (fun p => p.1.sameKey k) = es.any (fun p => p.1.sameKey k)
  unfold bare
  rw [List.any_map]
  rfl
theorem atKey_find (es : List (Lit × DataW Value)) (k : Lit) (z : DataW Value) : (DataW.map es).atKey k z = ((es.find? (fun p => p.1.sameKey k)).map (·.2)).getD z := by
  simp only [DataW.atKey]
  cases es.find? (fun p => p.1.sameKey k) <;> rfl
theorem atKey_bare (es : List (Lit × DataW Value)) (k : Lit) : (DataW.map (bare es)).atKey k .nil = .nil := by
  rw [atKey_find]
  unfold bare
  rw [List.find?_map]
  generalize es.find? _ = r
  cases r <;> rfl
theorem canon_bare {es : List (Lit × DataW Value)} (h : Canon (.map es : DataW Value)) : Canon (.map (bare es) : DataW Value) := by
  obtain ⟨es', e, h1, h2⟩ := h
  cases e
  refine ⟨_, rfl, ?_, ?_⟩
  · unfold bare
    rw [List.pairwise_map]
    exact h1
  · intro p hp
    obtain ⟨q, hq, rfl⟩ := List.mem_map.1 hp
    exact h2 q hq
theorem size_same {D₁ D₂ : DataW Value} (c₁ : Canon D₁) (c₂ : Canon D₂) (hh : ∀ k, has D₁ k = has D₂ k) : size D₁ = size D₂ := by
  obtain ⟨es₁, rfl, _⟩ := id c₁
  obtain ⟨es₂, rfl, _⟩ := id c₂
  have a1 : ∀ (es : List (Lit × DataW Value)) (k : Lit) (z : DataW Value), has (.map (bare es)) k = true → (DataW.map (bare es)).atKey k z = .nil := by
    intro es k z h
    have h1 := atKey_bare es k
    have : ∃ y, ∀ z, (DataW.map (bare es)).atKey k z = y := by
      have h' : (bare es).any (fun p => p.1.sameKey k) = true := h
      obtain ⟨p, hp, hpk⟩ := List.any_eq_true.1 h'
      have hs : ((bare es).find? (fun p => p.1.sameKey k)).isSome = true := List.find?_isSome.2 ⟨p, hp, hpk⟩
      obtain ⟨x, hx⟩ := Option.isSome_iff_exists.1 hs
      exact ⟨x.2, fun z => by rw [atKey_find, hx]; rfl⟩
    obtain ⟨y, hy⟩ := this
    rw [hy z, ← hy .nil, h1]
  have e := Maps.ext (canon_bare c₁) (canon_bare c₂) (fun k => by rw [has_bare, has_bare]; exact hh k) (fun k z h => by rw [a1 es₁ k z h, a1 es₂ k z (by rw [has_bare, ← hh k, ← has_bare]; exact h)])
  have e2 : bare es₁ = bare es₂ := by injection e
  have e3 := congrArg List.length e2
  simpa [bare, size] using e3

/-- The clone's runs, key by key. -/
def CloneMap (W : World) (base base2 : Nat) (Dc Dd : DataW Value) : Prop := ∀ kl, WideAt.IsKeyLit kl → ∃ rs, rs.length ≤ 1024 ∧ Runs W base (look Dc kl (.slice none 0 0)) rs ∧ Runs W base2 (look Dd kl (.slice none 0 0)) rs

/-- The same, of the keys that have come. -/
def CloneSome (W : World) (base base2 : Nat) (Dc Dd : DataW Value) : Prop := ∀ kl, WideAt.IsKeyLit kl → has Dd kl = true → ∃ rs, rs.length ≤ 1024 ∧ Runs W base (look Dc kl (.slice none 0 0)) rs ∧ Runs W base2 (look Dd kl (.slice none 0 0)) rs

structure Cloned (W W' : World) (base n1 n2 : Nat) (Dv Dc Dd : DataW Value) (bv bc : Nat) : Prop where
  v : Mp W' 9 bv n1 Dv
  c : Mp W' 9 bc n2 Dd
  keys : ∀ kl, has Dd kl = has Dc kl
  size : size Dd = size Dc
  runs : CloneMap W' base W.heap.size Dc Dd
  keep : Keep (fun _ => False) W W'
  vb : W.heap.size ≤ bv
  cb : W.heap.size ≤ bc
  ne : bv ≠ bc

theorem look_at {D : DataW Value} {kl : Lit} {c : Value} {y : DataW Value × List MemPlace} (hy : itself c = some y) (h : ∀ zd, D.atKey kl zd = y.1) (z : Value) : look D kl z = c := by
  unfold itself at hy
  cases hy
  unfold look
  rw [h]
theorem keep_grown {W W' : World} (k : Keep (fun _ => False) W W') : W.grownBy W' none := ⟨k.os, k.tape, k.output, k.size, fun i hi _ => k.block i hi (fun e => e)⟩

def NotCells (W : World) (i : Nat) : Prop := ∀ xs t fz, W.heap[i]? ≠ some (.cells xs t fz)
theorem Mp.notCells {W : World} {k b n : Nat} {D : DataW Value} (h : Mp W k b n D) : NotCells W b := by
  obtain ⟨es, cl, hb⟩ := Mp.block h
  intro xs t fz e
  rw [hb] at e
  cases e
theorem ranges_notCells {W : World} {b r n cnt : Nat} {D : DataW Value} {left : Lit → Bool} (h : W.ranges Yba.prog 9 itself b r n D left cnt) : NotCells W r := by
  obtain ⟨es, clock, since, seen, c0, _, _, _, _, hr, _⟩ := h
  intro xs t fz e
  rw [hr] at e
  cases e
theorem Runs.keepN {W W' : World} {base : Nat} {v : Value} {rs : List (Int × Int)} {S : Nat → Prop} (h : Runs W base v rs) (k : Keep S W W') (hS : ∀ i, S i → NotCells W i) : Runs W' base v rs := by
  refine h.keep k (fun g hg hSg => ?_)
  obtain ⟨h1, h2⟩ := h
  rcases h2 with ⟨rfl, _⟩ | ⟨g', cap, cur, rfl, _, hb', _⟩
  · cases hg
  · simp [Value.ownBlock] at hg
    subst hg
    exact hS _ hSg _ _ _ hb'
theorem cloneSome_keep {W W' : World} {base base2 : Nat} {Dc Dd : DataW Value} {S : Nat → Prop} (h : CloneSome W base base2 Dc Dd) (k : Keep S W W') (hS : ∀ i, S i → NotCells W i) : CloneSome W' base base2 Dc Dd := by
  intro kl hk hh
  obtain ⟨rs, hn, h1, h2⟩ := h kl hk hh
  exact ⟨rs, hn, Runs.keepN h1 k hS, Runs.keepN h2 k hS⟩
theorem look_none {D : DataW Value} {kl : Lit} (h : has D kl = false) (z : Value) : look D kl z = z := by
  unfold look
  rw [atKey_of_not_has h]
theorem CloneSome.put {W : World} {base base2 : Nat} {Dc Dd : DataW Value} (h : CloneSome W base base2 Dc Dd) (hD : IsMap Dd) {kl : Lit} (hk : WideAt.IsKeyLit kl) {v v' : Value} {rs : List (Int × Int)} (hn : rs.length ≤ 1024) (hv : look Dc kl (.slice none 0 0) = v) (h1 : Runs W base v rs) (h2 : Runs W base2 v' rs) :
    CloneSome W base base2 Dc (Dd.put kl (.held v')) := by
  intro kl' hk' hh
  by_cases e : kl' = kl
  · subst e
    exact ⟨rs, hn, by rw [hv]; exact h1, by rw [look_put_same hD hk]; exact h2⟩
  · rw [has_put_other e] at hh
    rw [look_put_other e]
    exact h kl' hk' hh
theorem keys_step {Dc Dd : DataW Value} {left : Lit → Bool} {kl : Lit} {d y : DataW Value} (hk : WideAt.IsKeyLit kl) (hD : IsMap Dd) (h : ∀ k, has Dd k = (has Dc k && !left k)) (hat : ∀ zd, Dc.atKey kl zd = y) : ∀ k, has (Dd.put kl d) k = (has Dc k && !(left k && !k.sameKey kl)) := by
  intro k
  by_cases e : k = kl
  · subst e
    rw [has_put_same hD hk, has_true_of_atKey hat, WideAt.sameKey_self hk]
    simp
  · rw [has_put_other e, h k, sameKey_ne e]
    simp

theorem str_key {key : Value} {kl : Lit} (h : keyOf Yba.prog 9 key = some kl) : ∃ s, key = .string s := by
  cases key <;> simp [keyOf, Yba.underlying9, mapKey] at h
  exact ⟨_, rfl⟩
theorem str_kl {s : ByteArray} {kl : Lit} (h : keyOf Yba.prog 9 (.string s) = some kl) : WideAt.IsKeyLit kl := lawS.key h

theorem startC {W w0 : World} {base n2 b : Nat} {mv : Option Nat} {Dc : DataW Value} (hC : Mp W 9 b n2 Dc)
    (hg0 : (((W.alloc (.cells #[.map mv, .map (some b)] 29)).alloc (.cells #[.map none, .map none] 29)).alloc (.map #[] 0)).grownBy w0 none) (hs0 : w0.heap.size = W.heap.size + 3 + 1)
    (hrg0 : w0.ranges Yba.prog 9 itself b (W.heap.size + 3) n2 Dc (has Dc) (size Dc)) (k0 : Keep (fun _ => False) W w0) (hn : n2 ≤ 1024) :
    ∃ (left : Lit → Bool) (cnt m : Nat) (Dd : DataW Value), w0.ranges Yba.prog 9 itself b (W.heap.size + 3) n2 Dc left cnt ∧ m + cnt ≤ n2 ∧ Mp w0 9 (W.heap.size + 2) m Dd ∧ (∀ kl, has Dd kl = (has Dc kl && !left kl)) ∧ CloneSome w0 base (W.heap.size + 4) Dc Dd ∧
      Keep (fun _ => False) W w0 ∧ w0.heap[W.heap.size]? = some (.cells #[.map mv, .map (some b)] 29 (0, 0)) ∧ w0.heap[W.heap.size + 1]? = some (.cells #[.map none, .map none] 29 (0, 0)) ∧ W.heap.size + 4 ≤ w0.heap.size := by
  refine ⟨has Dc, size Dc, 0, .map [], hrg0, ?_, ?_, fun kl => by rw [has_empty]; cases has Dc kl <;> rfl, fun kl _ h => (by rw [has_empty] at h; cases h), k0, ?_, ?_, by omega⟩
  · rw [Nat.zero_add]
    exact World.ownsMap.size_le hC
  · have := Mp_made ((W.alloc (.cells #[.map mv, .map (some b)] 29)).alloc (.cells #[.map none, .map none] 29)) 9
    rw [show ((W.alloc (.cells #[.map mv, .map (some b)] 29)).alloc (.cells #[.map none, .map none] 29)).heap.size = W.heap.size + 2 by simp] at this
    exact this.kept hg0 (by simp)
  · rw [hg0.block _ (by simp; omega) (by simp), old_alloc _ _ (by simp; omega), old_alloc _ _ (by simp), at_alloc]
  · rw [hg0.block _ (by simp) (by simp), old_alloc _ _ (by simp)]
    have := at_alloc (W.alloc (.cells #[.map mv, .map (some b)] 29)) (.cells #[.map none, .map none] 29)
    rw [show (W.alloc (.cells #[.map mv, .map (some b)] 29)).heap.size = W.heap.size + 1 by simp] at this
    exact this

theorem finC {W wr w2 X : World} {base n1 n2 m bv : Nat} {Dv Dc Dd : DataW Value} {left : Lit → Bool} {v0 v1 : Value} (hC : Canon Dc) (hR : RunMap W base Dc) (hD : Mp wr 9 (W.heap.size + 2) m Dd) (hkeys : ∀ kl, has Dd kl = (has Dc kl && !left kl)) (hl0 : ∀ kl, left kl = false)
    (hcl : CloneSome wr base (W.heap.size + 4) Dc Dd) (hK : Keep (fun _ => False) W wr) (hsz : W.heap.size + 4 ≤ bv) (hV2 : Mp w2 9 bv n1 Dv) (k2 : Keep (fun _ => False) wr w2) (hm : m ≤ n2)
    (hX : X = (w2.setCell ⟨W.heap.size + 1, 0, none⟩ v0).setCell ⟨W.heap.size + 1, 1, none⟩ v1) : Cloned W X base n1 n2 Dv Dc Dd bv (W.heap.size + 2) := by
  have kX : Keep (fun i => i = W.heap.size + 1) w2 X := by
    subst hX
    exact ((Keep.refl (fun i => i = W.heap.size + 1) w2).setCell (p := ⟨W.heap.size + 1, 0, none⟩) (fun _ => rfl) _).setCell (p := ⟨W.heap.size + 1, 1, none⟩) (fun _ => rfl) _
  have kr : Keep (fun i => i = W.heap.size + 1) wr X := (k2.mono (fun _ _ e => e.elim)).trans kX
  have kW : Keep (fun _ => False) W X := keep_far hK kr (fun i e => by omega)
  have hk : ∀ kl, has Dd kl = has Dc kl := fun kl => by rw [hkeys kl, hl0 kl]; simp
  have hD2 := (hD.keep kr (by omega)).mono hm
  refine ⟨hV2.keep kX (by omega), hD2, hk, size_same (World.ownsMap.canon hD lawS) hC hk, fun kl hkl => ?_, kW, by omega, by omega, by omega⟩
  cases hh : has Dd kl
  · have h2 := hh
    rw [hk kl] at h2
    rw [look_none hh, look_none h2]
    exact ⟨[], by simp, Runs_nil _ _, Runs_nil _ _⟩
  · obtain ⟨rs, hrn, h1, h2⟩ := hcl kl hkl hh
    obtain ⟨rs', _, h3⟩ := hR kl hkl
    exact ⟨rs, hrn, h1.keep kr (fun g hg e => by have := (h3.lt hg).1; omega), (h2.keep kr (fun g hg e => by have := (h2.lt hg).2; omega)).base (by omega)⟩

set_option maxRecDepth 100000 in
set_option maxHeartbeats 1000000 in
theorem clone_some (W : World) (base n1 n2 b : Nat) (mv : Option Nat) (Dv Dc : DataW Value) (hn : n2 ≤ 1024) (hV : MpO W 9 mv n1 Dv) (hC : Mp W 9 b n2 Dc) (hR : RunMap W base Dc) :
    Calls Yba.prog 9 #[.agg #[.map mv, .map (some b)]] W fun e W' => ∃ bv bc Dd, e = .returned (.agg #[.map (some bv), .map (some bc)]) ∧ Cloned W W' base n1 n2 Dv Dc Dd bv bc := by
  have hm2 := run_makeMap_room Yba.underlying27 .i64
  have hlt := hC.lt
  go_enter Yba.func9, Yba.ntmps9
  go_wp2_with (first
    | (at_len; refine wpList_len_is _ rfl (.tmp 7) 27 rfl 9 39 Yba.underlying27 b n2 Dc rfl ((hC.alloc _).alloc _) _ rfl ?_)
    | (at_range; refine wpList_range_own _ rfl _ 27 rfl 9 39 lawS Yba.underlying27 itself b n2 _ rfl (((hC.alloc _).alloc _).alloc _) ?_; intro w0 hrg0 hg0 hs0)
    | go_in)
  go_frame
  have e3 : (((W.alloc (.cells #[.map mv, .map (some b)] 29)).alloc (.cells #[.map none, .map none] 29)).alloc (.map #[] 0)).heap.size = W.heap.size + 3 := by simp
  rw [e3] at hrg0 hs0 ⊢
  go_loopw [4] (fun _ wr => ∃ (left : Lit → Bool) (cnt m : Nat) (Dd : DataW Value), wr.ranges Yba.prog 9 itself b (W.heap.size + 3) n2 Dc left cnt ∧ m + cnt ≤ n2 ∧ Mp wr 9 (W.heap.size + 2) m Dd ∧ (∀ kl, has Dd kl = (has Dc kl && !left kl)) ∧ CloneSome wr base (W.heap.size + 4) Dc Dd ∧
      Keep (fun _ => False) W wr ∧ wr.heap[W.heap.size]? = some (.cells #[.map mv, .map (some b)] 29 (0, 0)) ∧ wr.heap[W.heap.size + 1]? = some (.cells #[.map none, .map none] 29 (0, 0)) ∧ W.heap.size + 4 ≤ wr.heap.size)
    (fun _ wr => wr.rangeLeft b (W.heap.size + 3))
  case atStart =>
    have k0 : Keep (fun _ => False) W w0 := keep_far ((((Keep.refl (fun _ => False) W).alloc _).alloc _).alloc _) ((Keep.refl (fun _ => False) _).grown hg0 (fun j hj _ => by cases hj)) (fun _ e => e.elim)
    exact startC hC hg0 hs0 hrg0 k0 hn
  case round =>
    obtain ⟨left, cnt, m, Dd, hrg, hcs, hD, hkeys, hcl, hK, hpar, hres, hsz⟩ := hrel
    go_wp2_with (first
      | (at_next; refine wpList_next_ranges _ rfl _ rfl 9 lawS itself Value.string (fun v => v) (fun key kl h => str_key h) (fun v y h => ⟨v, rfl⟩) b (W.heap.size + 3) n2 _ _ _ rfl hrg ?_ ?_)
      | go_in)
    · intro hc0 hl0
      have hV1 := hV.keep hK (fun _ _ e => e)
      have p0 : wr.cell? ⟨W.heap.size, 0, none⟩ = some (.map mv) := cell_block hpar 0
      have r0 : wr.cell? ⟨W.heap.size + 1, 0, none⟩ = some (.map none) := cell_block hres 0
      have r1 : wr.cell? ⟨W.heap.size + 1, 1, none⟩ = some (.map none) := cell_block hres 1
      go_wp2_with (go_at_call 14; refine (cmap _ mv n1 Dv hV1).mono ?_)
      rintro e w2 ⟨rfl, hV2, k2, z2⟩
      have hres2 : w2.heap[W.heap.size + 1]? = some (.cells #[.map none, .map none] 29 (0, 0)) := (k2.block _ (by omega) (fun e => e)).trans hres
      have t0 : w2.cell? ⟨W.heap.size + 1, 0, none⟩ = some (.map none) := cell_block hres2 0
      have t1 : w2.cell? ⟨W.heap.size + 1, 1, none⟩ = some (.map none) := cell_block hres2 1
      have t2 := free_block hres2 0
      have t3 := free_block hres2 1
      clear p0 r0 r1
      go_wp2
      refine bodyPost_ret (v := .agg #[.map (some wr.heap.size), .map (some (W.heap.size + 1 + 1))]) (by simp [results, Yba.results9, go_sem, t0, t1]) rfl ⟨wr.heap.size, W.heap.size + 2, Dd, rfl, ?_⟩
      exact finC (World.ownsMap.canon hC lawS) hR hD hkeys hl0 hcl hK hsz hV2 k2 (by omega) rfl
    · intro x c kl yd yp w1 cnt1 hkey hlx hyc hat hrg1 hlt1 hg1 hs1 hen
      have k1 : Keep (fun i => i = W.heap.size + 3) wr w1 := (Keep.refl _ _).grown hg1 (fun j hj _ => by simpa using hj.symm)
      have hK1 : Keep (fun _ => False) W w1 := keep_far hK k1 (fun i e => by omega)
      obtain ⟨rs, hrl, hrc⟩ := hR kl (str_kl hkey)
      rw [look_at hyc hat] at hrc
      have hrc1 := hrc.keep hK1 (fun _ _ e => e)
      have HR : Hid (Runs w1 base c rs) := hrc1
      clear hrc hrc1
      go_wp2_with (go_at_call 13; refine (sclone _ base c rs HR.out hrl).mono ?_)
      rintro e w2 ⟨v', rfl, hr2, k2⟩
      have hD2 := (hD.keep k1 (by omega)).keep k2 (fun e => e)
      go_wp2_with (at_mapUpdate; refine wpList_put _ rfl _ _ _ 27 rfl 9 39 lawS Yba.underlying27 _ _ _ rfl hD2 (by unfold maxLen; omega) _ _ _ rfl rfl hkey ?_)
      intro w3 hD3 hg3 hz3
      have hrg3 := (hrg1.kept (keep_grown k2) (by simp) (by simp)).kept hg3 (by simp; omega) (by simp)
      have k12 : Keep (fun i => i = W.heap.size + 3) wr w2 := k1.trans (k2.mono (fun _ _ e => e.elim))
      have k3 : Keep (fun i => i = W.heap.size + 2) w2 w3 := (Keep.refl _ _).grown hg3 (fun j hj _ => by simpa using hj.symm)
      have c2 := cloneSome_keep hcl k12 (fun i e => by subst e; exact ranges_notCells hrg)
      have c3 := cloneSome_keep (c2.put hD.isMap (str_kl hkey) hrl (look_at hyc hat _) (HR.out.keep k2 (fun _ _ e => e)) (hr2.base (by omega))) k3 (fun i e => by subst e; exact Mp.notCells hD2)
      have ks := keys_step (d := .held v') (str_kl hkey) hD.isMap hkeys hat
      have k13 : Keep (fun i => i = W.heap.size + 3 ∨ i = W.heap.size + 2) wr w3 := (k12.mono (fun _ _ e => Or.inl e)).trans (k3.mono (fun _ _ e => Or.inr e))
      have hK3 : Keep (fun _ => False) W w3 := keep_far hK k13 (fun i e => by omega)
      have hpar3 := (k13.block _ (by omega) (by omega)).trans hpar
      have hres3 := (k13.block _ (by omega) (by omega)).trans hres
      have hsz3 := Nat.le_trans hsz k13.size
      clear hcl c2 hD hD2 hkeys hpar hres hsz k1 k12 k3 k13 hK hK1 hr2 HR hg1 hg3
      go_wp2
      go_roundw
      case rel => exact ⟨_, cnt1, m + 1, _, hrg3, by omega, hD3, ks, c3, hK3, hpar3, hres3, hsz3⟩
      case measure => rw [hrg3.left_eq, hrg.left_eq]; exact hlt1


set_option maxRecDepth 100000 in
set_option maxHeartbeats 1000000 in
theorem clone_nil (W : World) (base n1 n2 : Nat) (mv : Option Nat) (Dv : DataW Value) (hV : MpO W 9 mv n1 Dv) :
    Calls Yba.prog 9 #[.agg #[.map mv, .map none]] W fun e W' => ∃ bv bc Dd, e = .returned (.agg #[.map (some bv), .map (some bc)]) ∧ Cloned W W' base n1 n2 Dv (.map []) Dd bv bc := by
  have hm2 := run_makeMap_room Yba.underlying27 .i64
  have hln := fun (w : World) => Maps.len_nil (P := Yba.prog) (w := w) Yba.underlying27
  obtain ⟨X, hX⟩ : ∃ X, X = ((W.alloc (.cells #[.map mv, .map none] 29)).alloc (.cells #[.map none, .map none] 29)).alloc (.map #[] 0) := ⟨_, rfl⟩
  have hrg := run_range_nilMap (P := Yba.prog) X 27 9 39 Yba.underlying27
  have hnx : ∀ ty, (Instr.next (.pointer (some ⟨X.heap.size, 0, none⟩)) false ty).run Yba.prog (X.alloc (.mapIter none 0 #[] 0)) = _ := fun ty => run_next_nilMap _ ty 0 0 #[]
  have e1 : X.heap.size = W.heap.size + 3 := by subst hX; simp
  rw [e1] at hrg hnx
  subst hX
  go_enter Yba.func9, Yba.ntmps9
  go_wp2_with (first
    | (at_len; refine wpList_lenO _ rfl (.tmp 7) 27 rfl 9 39 Yba.underlying27 none 0 _ rfl (Or.inl ⟨rfl, rfl⟩) 0 rfl ?_)
    | go_in)
  have kY : Keep (fun _ => False) W ((((W.alloc (.cells #[.map mv, .map none] 29)).alloc (.cells #[.map none, .map none] 29)).alloc (.map #[] 0)).alloc (.mapIter none 0 #[] 0)) := ((((Keep.refl _ _).alloc _).alloc _).alloc _).alloc _
  have mY : Mp ((((W.alloc (.cells #[.map mv, .map none] 29)).alloc (.cells #[.map none, .map none] 29)).alloc (.map #[] 0)).alloc (.mapIter none 0 #[] 0)) 9 (W.heap.size + 2) 0 (.map []) := by
    have := (Mp_made ((W.alloc (.cells #[.map mv, .map none] 29)).alloc (.cells #[.map none, .map none] 29)) 9).alloc (.mapIter none 0 #[] 0)
    rwa [show ((W.alloc (.cells #[.map mv, .map none] 29)).alloc (.cells #[.map none, .map none] 29)).heap.size = W.heap.size + 2 by simp] at this
  have rY : ((((W.alloc (.cells #[.map mv, .map none] 29)).alloc (.cells #[.map none, .map none] 29)).alloc (.map #[] 0)).alloc (.mapIter none 0 #[] 0)).heap[W.heap.size + 1]? = some (.cells #[.map none, .map none] 29 (0, 0)) := by
    rw [old_alloc _ _ (by simp), old_alloc _ _ (by simp)]
    have := at_alloc (W.alloc (.cells #[.map mv, .map none] 29)) (.cells #[.map none, .map none] 29)
    rwa [show (W.alloc (.cells #[.map mv, .map none] 29)).heap.size = W.heap.size + 1 by simp] at this
  have zY : ((((W.alloc (.cells #[.map mv, .map none] 29)).alloc (.cells #[.map none, .map none] 29)).alloc (.map #[] 0)).alloc (.mapIter none 0 #[] 0)).heap.size = W.heap.size + 4 := by simp
  have hV1 := hV.keep kY (fun _ _ e => e)
  have KY := show Hid _ from kY
  have MY := show Hid _ from mY
  have RY := show Hid _ from rY
  have ZY := show Hid _ from zY
  clear kY mY rY zY
  refine wp_loop_rounds 1 ?_
  rw [rounds_succ]
  go_wp2_with (go_at_call 14; refine (cmap _ mv n1 Dv hV1).mono ?_)
  rintro e w2 ⟨rfl, hV2, k2, z2⟩
  rw [ZY.out] at hV2 z2 ⊢
  have hres2 : w2.heap[W.heap.size + 1]? = some (.cells #[.map none, .map none] 29 (0, 0)) := (k2.block _ (by rw [ZY.out]; omega) (fun e => e)).trans RY.out
  have t0 : w2.cell? ⟨W.heap.size + 1, 0, none⟩ = some (.map none) := cell_block hres2 0
  have t1 : w2.cell? ⟨W.heap.size + 1, 1, none⟩ = some (.map none) := cell_block hres2 1
  have t2 := free_block hres2 0
  have t3 := free_block hres2 1
  go_wp2
  refine bodyPost_ret (v := .agg #[.map (some (W.heap.size + 4)), .map (some (W.heap.size + 1 + 1))]) (by simp [results, Yba.results9, go_sem, t0, t1]) rfl ⟨W.heap.size + 4, W.heap.size + 2, .map [], rfl, ?_⟩
  exact finC (left := fun _ => false) canon_empty (RunMap_nil W base) MY.out (fun kl => rfl) (fun _ => rfl) (fun kl _ h => by cases h) KY.out (Nat.le_refl _) hV2 k2 (Nat.zero_le _) rfl

end Go.Proofs.Ybulkcxce.Ctx
