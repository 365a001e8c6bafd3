import Derived.Test.YbulkcxcsFmtMerge
namespace Go.Proofs.YbulkcxcsFmt
open Go Go.RowKit
set_option linter.unusedVariables false

/-- The items that came in. -/
structure ITin (W : World) (a : Option Addr) (ts : List It) (b off : Nat) (va : Nat → Option Addr) (vc vb vo : Nat → Nat) : Prop where
  at_ : 0 < ts.length → a = some ⟨b, off, none⟩
  blk : 0 < ts.length → b < W.heap.size
  c0 : ∀ (i : Nat) t, ts[i]? = some t → W.cell? ⟨b, off + i * 3, none⟩ = some (.bool t.arr)
  c1 : ∀ (i : Nat) t, ts[i]? = some t → W.cell? ⟨b, off + i * 3 + 1, none⟩ = some (.slice (va i) t.vals.length (vc i))
  c2 : ∀ (i : Nat) t, ts[i]? = some t → W.cell? ⟨b, off + i * 3 + 2, none⟩ = some (.int .i64 t.v)
  vat : ∀ (i : Nat) t, ts[i]? = some t → 0 < t.vals.length → va i = some ⟨vb i, vo i, none⟩ ∧ vb i < W.heap.size
  v : ∀ (i : Nat) t, ts[i]? = some t → ∀ (j : Nat) x, t.vals[j]? = some x → W.cell? ⟨vb i, vo i + j, none⟩ = some (.int .i64 x)

theorem ITin.keep {W W' : World} {a : Option Addr} {ts : List It} {b off : Nat} {va : Nat → Option Addr} {vc vb vo : Nat → Nat} (h : ITin W a ts b off va vc vb vo) (k : Keep (fun _ => False) W W') : ITin W' a ts b off va vc vb vo := by
  have hp : ∀ (i : Nat) t, ts[i]? = some t → 0 < ts.length := fun i t ht => by have := (List.getElem?_eq_some_iff.1 ht).1; omega
  refine ⟨h.at_, fun h0 => Nat.lt_of_lt_of_le (h.blk h0) k.size, fun i t ht => ?_, fun i t ht => ?_, fun i t ht => ?_, fun i t ht h0 => ⟨(h.vat i t ht h0).1, Nat.lt_of_lt_of_le (h.vat i t ht h0).2 k.size⟩, fun i t ht j x hx => ?_⟩
  · exact (k.cell (p := ⟨b, _, none⟩) (h.blk (hp i t ht)) (fun e => e)).trans (h.c0 i t ht)
  · exact (k.cell (p := ⟨b, _, none⟩) (h.blk (hp i t ht)) (fun e => e)).trans (h.c1 i t ht)
  · exact (k.cell (p := ⟨b, _, none⟩) (h.blk (hp i t ht)) (fun e => e)).trans (h.c2 i t ht)
  · have : 0 < t.vals.length := by have := (List.getElem?_eq_some_iff.1 hx).1; omega
    exact (k.cell (p := ⟨vb i, _, none⟩) (h.vat i t ht this).2 (fun e => e)).trans (h.v i t ht j x hx)

theorem elem22 : Ybaf.prog.elem 22 = 25 := by kernel_rfl
theorem und22 : Ybaf.prog.underlying 22 = some (.slice (Ybaf.prog.elem 22)) := by kernel_rfl
theorem sizeOf25 (W : World) : (sizeOf 25).run Ybaf.prog W = .ok 3 W := by kernel_rfl
theorem elem23 : Ybaf.prog.elem 23 = 3 := by kernel_rfl
theorem und23 : Ybaf.prog.underlying 23 = some (.slice (Ybaf.prog.elem 23)) := by kernel_rfl
theorem sizeOf3 (W : World) : (sizeOf 3).run Ybaf.prog W = .ok 1 W := by kernel_rfl
theorem index22 {a : Option Addr} {n b off k : Nat} (ha : 0 < n → a = some ⟨b, off, none⟩) (hk : k < n) (c : Nat) (W : World) : (Instr.indexAt 22 (.slice a n c) (.int .i64 k)).run Ybaf.prog W = .ok (.pointer (some ⟨b, off + k * 3, none⟩)) W :=
  index_any und22 (fun W => by rw [elem22]; exact sizeOf25 W) ha hk W
theorem index23 {a : Option Addr} {n b off k : Nat} (ha : 0 < n → a = some ⟨b, off, none⟩) (hk : k < n) (c : Nat) (W : World) : (Instr.indexAt 23 (.slice a n c) (.int .i64 k)).run Ybaf.prog W = .ok (.pointer (some ⟨b, off + k, none⟩)) W := by
  have := index_any und23 (fun W => by rw [elem23]; exact sizeOf3 W) (c := c) ha hk W
  rwa [Nat.mul_one] at this

def Small (ts : List It) : Prop := ts.length ≤ 512 ∧ ∀ t ∈ ts, t.vals.length ≤ 1024

/-- The blocks from B on that hold ints. -/
def S3 (B : Nat) (X : World) (i : Nat) : Prop := B ≤ i ∧ ∃ cs fz, X.heap[i]? = some (.cells cs 3 fz)

theorem grow3 {B : Nat} {X W W' : World} {v : Value} {n : Nat} {xs : List Value} (k : Keep (S3 B X) X W) (ho : W.ownsRow B 3 1 v n xs) (hg : W.grownBy W' v.ownBlock) : Keep (S3 B X) X W' := by
  refine k.grown hg (fun j hj hlt => ?_)
  obtain ⟨h1, h2⟩ := ho
  rcases h2 with ⟨rfl, _⟩ | ⟨g, cap, cur, rfl, hb, hh, r⟩
  · cases hj
  · simp [Value.ownBlock] at hj
    subst hj
    by_cases hs : S3 B X g
    · exact hs
    · rw [k.block g hlt hs] at hh
      exact ⟨hb, cur, _, hh⟩

/-- An argument of merge whose row lies above the block ga. -/
def ElemA (W : World) (ga : Nat) (t : It) (v : Value) : Prop :=
  (t.arr = true ∧ ∃ g c, v = .iface 26 (.slice (some ⟨g, 0, none⟩) t.vals.length c) ∧ ga < g ∧ Row20 W g (t.vals.map ifc)) ∨ (t.arr = false ∧ v = ifc t.v)
theorem ElemA.keep {W W' : World} {ga : Nat} {t : It} {v : Value} {S : Nat → Prop} (h : ElemA W ga t v) (k : Keep S W W') (hS : ∀ g cs fz, ga < g → W.heap[g]? = some (.cells cs 20 fz) → ¬ S g) : ElemA W' ga t v := by
  rcases h with ⟨h1, g, c, h2, h4, h3⟩ | h
  · exact Or.inl ⟨h1, g, c, h2, h4, h3.keep k (fun cs fz => hS g cs fz h4)⟩
  · exact Or.inr h
theorem ElemA.elem {W : World} {ga : Nat} {t : It} {v : Value} (h : ElemA W ga t v) : Elem W t v := by
  rcases h with ⟨h1, g, c, h2, _, h3⟩ | h
  · exact Or.inl ⟨h1, g, c, h2, h3⟩
  · exact Or.inr h

def ints (xs : List Int) : List Value := xs.map (Value.int .i64)

theorem ownsRow_block {W : World} {base e size n : Nat} {g cap : Nat} {xs : List Value} (h : W.ownsRow base e size (.slice (some ⟨g, 0, none⟩) n cap) n xs) : ∃ cur, W.heap[g]? = some (.cells cur e (0, 0)) ∧ cur.size = cap * size ∧ cur.toList.take (n * size) = xs := by
  obtain ⟨_, h2⟩ := h
  rcases h2 with ⟨h, _⟩ | ⟨g', cap', cur, hv, hb, hh, _, _, hs, ht⟩
  · cases h
  · cases hv
    exact ⟨cur, hh, hs, ht⟩

/-- The arguments es, the wanted numbers fw, in memory above w. -/
structure Bt (w wr : World) (ts : List It) (es : List Value) (fw : List Int) (vw : Value) : Prop where
  args : wr.ownsRow w.heap.size 20 1 (.slice (some ⟨w.heap.size, 0, none⟩) es.length ts.length) es.length es
  el : ∀ (i : Nat) (t : It) (v : Value), ts[i]? = some t → es[i]? = some v → ElemA wr w.heap.size t v
  want : wr.ownsRow w.heap.size 3 1 vw fw.length (ints fw)
  keep : Keep (fun _ => False) w wr

section
variable {w wr w' : World} {ts : List It} {es : List Value} {fw : List Int} {vw : Value}

theorem Bt.argsAt (h : Bt w wr ts es fw vw) (hl : es.length = ts.length) : ArgsAt wr w.heap.size ts es := by
  obtain ⟨cur, hh, hs, ht⟩ := ownsRow_block h.args
  refine ⟨⟨cur, _, hh, fun j v hj => ?_⟩, hl, fun i t v h1 h2 => (h.el i t v h1 h2).elem⟩
  rw [← ht, List.getElem?_take] at hj
  split at hj
  · simpa using hj
  · cases hj

theorem Bt.start {w1 : World} (ho : w1.ownsRow w.heap.size 20 1 (.slice (some ⟨w.heap.size, 0, none⟩) 0 ts.length) 0 []) (hg : w.grownBy w1 none) : Bt w (w1.alloc (.cells #[] 3)) ts [] [] (.slice (some ⟨w1.heap.size, 0, none⟩) 0 0) :=
  ⟨hown_alloc ho _, fun i t v h h2 => by simp at h2, ⟨rfl, Or.inr ⟨w1.heap.size, 0, #[], rfl, hg.size, at_alloc w1 _, Nat.le_refl _, Nat.zero_le _, rfl, rfl⟩⟩, ((Keep.refl _ _).grown hg (fun j hj _ => by cases hj)).alloc _⟩

/-- Over a stretch that may write the wanted numbers alone. -/
theorem Bt.inner (h : Bt w wr ts es fw vw) (k : Keep (S3 w.heap.size wr) wr w') {fw' : List Int} {vw' : Value} (hw : w'.ownsRow w.heap.size 3 1 vw' fw'.length (ints fw')) : Bt w w' ts es fw' vw' := by
  have hne : ∀ g cs fz, wr.heap[g]? = some (.cells cs 20 fz) → ¬ S3 w.heap.size wr g := fun g cs fz hb e => by
    obtain ⟨_, cs', fz', hb'⟩ := e
    rw [hb] at hb'
    simp at hb'
  refine ⟨hown_keep h.args k (fun g cs fz _ => hne g cs fz), fun i t v h1 h2 => (h.el i t v h1 h2).keep k (fun g cs fz _ => hne g cs fz), hw, keep_far h.keep k (fun i e => e.1)⟩

theorem Bt.step (h : Bt w wr ts es fw vw) (k : Keep (fun _ => False) wr w') : Bt w w' ts es fw vw :=
  h.inner (k.mono (fun _ _ e => e.elim)) (hown_keep h.want k (fun _ _ _ _ _ e => e))
theorem Bt.alloc (h : Bt w wr ts es fw vw) (o : Obj) : Bt w (wr.alloc o) ts es fw vw := h.step ((Keep.refl _ _).alloc o)

theorem Bt.putW (h : Bt w wr ts es fw vw) {fw' : List Int} {vw' : Value} (hw : w'.ownsRow w.heap.size 3 1 vw' fw'.length (ints fw')) (hg : wr.grownBy w' vw.ownBlock) : Bt w w' ts es fw' vw' :=
  h.inner (grow3 (Keep.refl _ _) h.want hg) hw

theorem Bt.putA (h : Bt w wr ts es fw vw) {t : It} {e : Value} (ht : ts[es.length]? = some t) (he : ElemA wr w.heap.size t e) (ho : w'.ownsRow w.heap.size 20 1 (.slice (some ⟨w.heap.size, 0, none⟩) (es.length + 1) ts.length) (es.length + 1) (es ++ [e])) (hg : wr.grownBy w' (some w.heap.size)) : Bt w w' ts (es ++ [e]) fw vw := by
  have hk : Keep (fun i => i = w.heap.size) wr w' := (Keep.refl _ _).grown hg (fun j hj _ => by simpa using hj.symm)
  obtain ⟨cur, hh, _⟩ := ownsRow_block h.args
  refine ⟨by simpa using ho, fun i t' v h1 h2 => ?_, hown_keep h.want hk (fun g cs fz _ hb e => ?_), keep_far h.keep hk (fun i e => by omega)⟩
  · have hS : ∀ g cs fz, w.heap.size < g → wr.heap[g]? = some (.cells cs 20 fz) → ¬ g = w.heap.size := fun g cs fz h1 _ h2 => by omega
    by_cases hi : i < es.length
    · rw [List.getElem?_append_left hi] at h2
      exact (h.el i t' v h1 h2).keep hk hS
    · have hi' : i = es.length := by
        have := (List.getElem?_eq_some_iff.1 h2).1
        simp at this
        omega
      subst hi'
      rw [ht] at h1
      cases h1
      simp at h2
      subst h2
      exact he.keep hk hS
  · subst e
    rw [hb] at hh
    simp at hh

/-- A cell of a younger block behind an append to the arguments. -/
theorem Bt.cell (h : Bt w wr ts es fw vw) (hg : wr.grownBy w' (some w.heap.size)) {p : Addr} {v : Value} (hp : w.heap.size < p.block) (hc : wr.cell? p = some v) : w'.cell? p = some v :=
  (World.cell?_of_block (w := wr) (hg.block p.block (lt_of_cell hc) (by simp; omega))).trans hc
end

theorem ints_append (xs ys : List Int) : ints (xs ++ ys) = ints xs ++ ints ys := by simp [ints]
theorem ints_one (x : Int) : ints [x] = [.int .i64 x] := rfl
theorem oneCell_int {x : Int} : ∀ u ∈ [Value.int .i64 x], u.oneCell' = true := fun u hu => by simp at hu; subst hu; rfl
theorem oneCell_ifc {v : Value} {t : TypeId} : ∀ u ∈ [Value.iface t v], u.oneCell' = true := fun u hu => by simp at hu; subst hu; rfl

end Go.Proofs.YbulkcxcsFmt
