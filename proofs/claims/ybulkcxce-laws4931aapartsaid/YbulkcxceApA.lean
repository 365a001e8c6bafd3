import Derived.Test.YbulkcxceEq
namespace Go.Proofs.Ybulkcxce.Ctx
open Go Go.Maps Go.RowKit
set_option linter.unusedVariables false

/-- A row of the clone: its first cell can be written. -/
def DRow (W : World) (B : Nat) (v : Value) (n : Nat) : Prop := 0 < n → ∃ g c xs, v = .slice (some ⟨g, 0, none⟩) n c ∧ B ≤ g ∧ W.heap[g]? = some (.cells xs 43 (0, 0)) ∧ 0 < xs.size

theorem DRow.of_runs {W : World} {B : Nat} {v : Value} {rs : List (Int × Int)} (h : Runs W B v rs) : DRow W B v rs.length := by
  intro h0
  obtain ⟨h1, h2⟩ := h
  rcases h2 with ⟨rfl, h0'⟩ | ⟨g, cap, cur, rfl, hg, hb, hle, hcap, hsz, htk⟩
  · omega
  · exact ⟨g, cap, cur, rfl, hg, hb, by omega⟩

theorem DRow.keep {W W' : World} {B n : Nat} {v : Value} {S : Nat → Prop} (h : DRow W B v n) (k : Keep S W W') (hS : ∀ i, S i → NotCells W i) : DRow W' B v n := by
  intro h0
  obtain ⟨g, c, xs, rfl, hg, hb, hx⟩ := h h0
  exact ⟨g, c, xs, rfl, hg, (k.block g (lt_of_block hb) (fun e => hS g e _ _ _ hb)).trans hb, hx⟩

theorem DRow.setCell {W : World} {B n : Nat} {v : Value} (h : DRow W B v n) (b off : Nat) (u : Value) : DRow (W.setCell ⟨b, off, none⟩ u) B v n := by
  intro h0
  obtain ⟨g, c, xs, rfl, hg, hb, hx⟩ := h h0
  by_cases e : g = b
  · subst e
    exact ⟨g, c, _, rfl, hg, block_setCell hb off u, by simpa using hx⟩
  · exact ⟨g, c, xs, rfl, hg, (Below.heap_setCell W ⟨b, off, none⟩ u g e).trans hb, hx⟩

/-- c as it was built (the world C); the clone d, which may be written. -/
structure Sep (C wr : World) (base Db bv bc m n2 : Nat) (Dc Dd : DataW Value) : Prop where
  keep : Keep (fun _ => False) C wr
  dB : wr.heap[Db]? = some (.cells #[.map (some bv), .map (some bc)] 29 (0, 0))
  dv : ∃ Dv', Mp wr 9 bv m Dv'
  dc : Mp wr 9 bc n2 Dd
  vb : C.heap.size ≤ bv
  cb : C.heap.size ≤ bc
  ne : bv ≠ bc
  db : C.heap.size ≤ Db
  rows : ∀ kl, WideAt.IsKeyLit kl → ∃ rs, rs.length ≤ 1024 ∧ Runs C base (look Dc kl (.slice none 0 0)) rs ∧ DRow wr C.heap.size (look Dd kl (.slice none 0 0)) rs.length

section
variable {C wr w' : World} {base Db bv bc m n2 : Nat} {Dc Dd : DataW Value}

theorem Sep.step (h : Sep C wr base Db bv bc m n2 Dc Dd) (k : Keep (fun _ => False) wr w') : Sep C w' base Db bv bc m n2 Dc Dd :=
  ⟨h.keep.trans k, (k.block _ (lt_of_block h.dB) (fun e => e)).trans h.dB, (by obtain ⟨Dv', e⟩ := h.dv; exact ⟨Dv', e.keep k (fun e => e)⟩), h.dc.keep k (fun e => e), h.vb, h.cb, h.ne, h.db,
    fun kl hk => by obtain ⟨rs, hn, h1, h2⟩ := h.rows kl hk; exact ⟨rs, hn, h1, h2.keep k (fun _ e => e.elim)⟩⟩

theorem Sep.alloc (h : Sep C wr base Db bv bc m n2 Dc Dd) (o : Obj) : Sep C (wr.alloc o) base Db bv bc m n2 Dc Dd := h.step ((Keep.refl _ _).alloc o)

theorem Sep.setRow (h : Sep C wr base Db bv bc m n2 Dc Dd) {g : Nat} {xs : Array Value} (hb : wr.heap[g]? = some (.cells xs 43 (0, 0))) (hg : C.heap.size ≤ g) (u : Value) : Sep C (wr.setCell ⟨g, 0, none⟩ u) base Db bv bc m n2 Dc Dd := by
  have hk : Keep (fun i => i = g) wr (wr.setCell ⟨g, 0, none⟩ u) := (Keep.refl (fun i => i = g) wr).setCell (p := ⟨g, 0, none⟩) (fun _ => rfl) u
  have hne : Db ≠ g := fun e => by
    subst e
    have := h.dB.symm.trans hb
    simp at this
  refine ⟨keep_far h.keep hk (fun i e => by omega), (hk.block _ (lt_of_block h.dB) hne).trans h.dB, (by obtain ⟨Dv', e⟩ := h.dv; exact ⟨Dv', e.keep hk (e.ne_cells hb)⟩), h.dc.keep hk (h.dc.ne_cells hb), h.vb, h.cb, h.ne, h.db, fun kl hkl => ?_⟩
  obtain ⟨rs, hn, h1, h2⟩ := h.rows kl hkl
  exact ⟨rs, hn, h1, h2.setCell g 0 u⟩

theorem Sep.putV (h : Sep C wr base Db bv bc m n2 Dc Dd) {m' : Nat} {D' : DataW Value} (hM : Mp w' 9 bv m' D') (hg : wr.grownBy w' (some bv)) : Sep C w' base Db bv bc m' n2 Dc Dd := by
  have hk : Keep (fun i => i = bv) wr w' := (Keep.refl _ _).grown hg (fun j hj _ => by simpa using hj.symm)
  obtain ⟨Dv0, hv0⟩ := h.dv
  refine ⟨keep_far h.keep hk (fun i e => by have := h.vb; omega), (hk.block _ (lt_of_block h.dB) (fun e => hv0.ne_cells h.dB e.symm)).trans h.dB, ⟨_, hM⟩, h.dc.keep hk (fun e => h.ne e.symm), h.vb, h.cb, h.ne, h.db, fun kl hkl => ?_⟩
  obtain ⟨rs, hn, h1, h2⟩ := h.rows kl hkl
  exact ⟨rs, hn, h1, h2.keep hk (fun i e => by subst e; exact Mp.notCells hv0)⟩
end

/-- From the two calls' ends to 'Sep'. -/
theorem sep_of {wA wB wD X : World} {n1 n2 : Nat} {mv mc : Option Nat} {Dv Dc Dd : DataW Value} {bv bc : Nat} (hb : Built wA wB false false n1 n2 mv mc Dv Dc)
    (hc : Cloned (wB.alloc (.cells #[.map mv, .map mc] 29)) wD wA.heap.size n1 n2 Dv Dc Dd bv bc) (hX : X = wD.alloc (.cells #[.map (some bv), .map (some bc)] 29)) :
    Sep (wB.alloc (.cells #[.map mv, .map mc] 29)) X wA.heap.size wD.heap.size bv bc n1 n2 Dc Dd := by
  have kC : Keep (fun _ => False) wB (wB.alloc (.cells #[.map mv, .map mc] 29)) := (Keep.refl _ _).alloc _
  have hR := hb.runs.above kC (fun _ _ e => e.elim)
  have h0 : Sep (wB.alloc (.cells #[.map mv, .map mc] 29)) X wA.heap.size wD.heap.size bv bc n1 n2 Dc Dd := by
    subst hX
    have kX : Keep (fun _ => False) wD (wD.alloc (.cells #[.map (some bv), .map (some bc)] 29)) := (Keep.refl _ _).alloc _
    refine ⟨hc.keep.alloc _, at_alloc wD _, ⟨_, hc.v.alloc _⟩, hc.c.alloc _, hc.vb, hc.cb, hc.ne, hc.keep.size, fun kl hk => ?_⟩
    obtain ⟨rs, hn, h1, h2⟩ := hc.runs kl hk
    obtain ⟨rs', hn', h3⟩ := hR kl hk
    obtain ⟨a, c, g, e1, _⟩ := h1.form
    obtain ⟨a', c', g', e2, _⟩ := h3.form
    have hl : rs.length = rs'.length := by
      rw [e1] at e2
      simp at e2
      exact e2.2.1
    exact ⟨rs', hn', h3, by rw [← hl]; exact (DRow.of_runs h2).keep kX (fun _ e => e.elim)⟩
  exact h0

end Go.Proofs.Ybulkcxce.Ctx
