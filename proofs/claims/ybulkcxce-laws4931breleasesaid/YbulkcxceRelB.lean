import Derived.Test.YbulkcxceRelP
import Derived.Deep.DeepCutAuto
import Derived.Deep.CutBlock
import Derived.BigQuiet
import Derived.BigRegion
namespace Go.Proofs.Ybulkcxce.Rel
open Go Go.RowKit
set_option linter.unusedVariables false

def gz (zs : List Int) (i : Nat) : Int := zs.getD i 0
def fz (zs : List Int) (i : Nat) : Nat := (gz zs i % 4).toNat

/-- The slice's place: where it has an element, it begins at ⟨b, off⟩. -/
structure Sl (w : World) (a1 : Option Addr) (len1 : Nat) (zs : List Int) (b off : Nat) : Prop where
  at_ : 0 < len1 → a1 = some ⟨b, off, none⟩
  blk : 0 < len1 → b < w.heap.size
  cell : ∀ i, i < len1 → w.cell? ⟨b, off + i, none⟩ = some (.int .u8 (gz zs i))
  bd : ∀ i, i < len1 → 0 ≤ gz zs i ∧ gz zs i ≤ 255

theorem elem45 : Yba.prog.elem 45 = 5 := by kernel_rfl
theorem und45 : Yba.prog.underlying 45 = some (.slice (Yba.prog.elem 45)) := by kernel_rfl

theorem Sl.index {w : World} {a1 : Option Addr} {len1 : Nat} {zs : List Int} {b off : Nat} (h : Sl w a1 len1 zs b off) {k : Nat} (hk : k < len1) (cap1 : Nat) (W : World) :
    (Instr.indexAt 45 (.slice a1 len1 cap1) (.int .i64 k)).run Yba.prog W = .ok (.pointer (some ⟨b, off + k, none⟩)) W := by
  rw [h.at_ (by omega), run_indexAt_slice (h := und45), if_pos (by omega)]
  simp only [elem45]
  have : Addr.add ⟨b, off, none⟩ k = ⟨b, off + k, none⟩ := by
    unfold Addr.add
    split <;> simp_all
  simp [this]

theorem Sl.cellAt {w wr : World} {a1 : Option Addr} {len1 : Nat} {zs : List Int} {b off : Nat} (h : Sl w a1 len1 zs b off) (hb : Below w.heap.size w wr) {k : Nat} (hk : k < len1) :
    wr.cell? ⟨b, off + k, none⟩ = some (.int .u8 (gz zs k)) :=
  (hb.cell (p := ⟨b, off + k, none⟩) (h.blk (by omega))).trans (h.cell k hk)

/-- The state of the first loop. -/
def R1 (w : World) (k : Nat) (wr : World) : Prop :=
  wr.heap[w.heap.size]? = some (.cells (pool w.heap.size k) 47 (0, 0)) ∧ (∀ t, t < k → wr.heap[w.heap.size + 1 + t]? = some (.cells (plan t) 52 (0, 0))) ∧ Below w.heap.size w wr ∧ wr.heap.size = w.heap.size + 1 + k

theorem R1_start (w : World) : R1 w 0 (w.alloc (.cells #[.pointer none, .pointer none, .pointer none, .pointer none, .pointer none] 47)) :=
  ⟨at_alloc w _, fun t ht => absurd ht (by omega), (Below.refl _ _).alloc (Nat.le_refl _) _, by simp⟩

theorem R1_step {w wr : World} {k : Nat} (h : R1 w k wr) (hk : k < 5) {X : World} (hX : X = (wr.alloc (.cells (plan k) 52)).setCell ⟨w.heap.size, k, none⟩ (.pointer (some ⟨w.heap.size + 1 + k, 0, none⟩))) : R1 w (k + 1) X := by
  obtain ⟨h1, h2, h3, h4⟩ := h
  subst hX
  refine ⟨?_, fun t ht => ?_, (h3.alloc (by omega) _).setCell (Nat.le_refl _) _, by simp [h4]; omega⟩
  · rw [block_setCell ((old_alloc wr _ (by omega)).trans h1), pool_set hk]
  · rw [Below.heap_setCell _ _ _ _ (show w.heap.size + 1 + t ≠ w.heap.size by omega)]
    by_cases e : t = k
    · subst e
      have := at_alloc wr (.cells (plan t) 52)
      rw [h4] at this
      exact this
    · rw [old_alloc _ _ (by omega)]
      exact h2 t (by omega)

theorem R1_end {w wr : World} (h : R1 w 5 wr) : Bs w wr := ⟨h.1, h.2.1, h.2.2.1, by rw [h.2.2.2]; omega⟩

/-- How 'want' is filled: m k: how many after k rounds; h: which plans. -/
structure Fin (n q : Nat) (f : Nat → Nat) (jj : Int) (m : Nat → Nat) (h : Nat → Nat) (N : Nat) : Prop where
  m0 : m 0 = 0
  mn : m n = N
  mle : ∀ k, m k ≤ k
  same : ∀ k, k < n → (k : Int) = jj → m (k + 1) = m k
  next : ∀ k, k < n → (k : Int) ≠ jj → m (k + 1) = m k + 1 ∧ h (m k) = f k
  h5 : ∀ i, h i < 5
  find : (jj = -1 ∧ ∀ i, i < n → f i ≠ q) ∨ ∃ x : Nat, jj = x ∧ x < n ∧ f x = q ∧ ∀ i, i < x → f i ≠ q

theorem Fin_none {n q : Nat} {f : Nat → Nat} (hf : ∀ i, f i < 5) (h : ∀ i, i < n → f i ≠ q) : Fin n q f (-1) (fun k => k) f n :=
  ⟨rfl, rfl, fun k => Nat.le_refl _, fun k _ e => by omega, fun k _ _ => ⟨rfl, rfl⟩, hf, Or.inl ⟨rfl, h⟩⟩
def mS (x k : Nat) : Nat := if k ≤ x then k else k - 1
theorem Fin_some {n q x : Nat} {f : Nat → Nat} (hf : ∀ i, f i < 5) (hx : x < n) (hxq : f x = q) (hl : ∀ i, i < x → f i ≠ q) : Fin n q f x (mS x) (skip f x) (n - 1) := by
  refine ⟨by simp [mS], by unfold mS; rw [if_neg (by omega)], fun k => by unfold mS; split <;> omega, fun k _ e => ?_, fun k _ e => ?_, fun i => by unfold skip; split <;> exact hf _, Or.inr ⟨x, rfl, hx, hxq, hl⟩⟩
  · unfold mS
    rw [if_neg (by omega), if_pos (by omega)]
    omega
  · unfold mS skip
    by_cases h : k < x
    · rw [if_pos (by omega), if_pos (by omega), if_pos h]
      exact ⟨rfl, rfl⟩
    · rw [if_neg (by omega), if_neg (by omega), if_neg (by omega), show k - 1 + 1 = k by omega]
      exact ⟨by omega, rfl⟩

theorem first_or_none (f : Nat → Nat) (q : Nat) : ∀ n, (∀ i, i < n → f i ≠ q) ∨ ∃ x, x < n ∧ f x = q ∧ ∀ i, i < x → f i ≠ q
  | 0 => Or.inl (fun i h => absurd h (by omega))
  | n + 1 => by
    rcases first_or_none f q n with h | ⟨x, h1, h2, h3⟩
    · by_cases e : f n = q
      · exact Or.inr ⟨n, by omega, e, h⟩
      · refine Or.inl (fun i hi => ?_)
        by_cases e2 : i = n
        · rw [e2]; exact e
        · exact h i (by omega)
    · exact Or.inr ⟨x, by omega, h2, h3⟩

/-- What stays from the call of release on. -/
structure W5 (w wr : World) (n N : Nat) (a2 : Int) (f h : Nat → Nat) : Prop where
  bs : Bs w wr
  held : Row wr w.heap.size (w.heap.size + 6) N h
  before : Full wr w.heap.size (w.heap.size + 7) n f n
  bud : wr.heap[w.heap.size + 8]? = some (.cells (bud a2 (w.heap.size + 6) N n) 56 (0, 0))
  big : w.heap.size + 10 ≤ wr.heap.size

theorem W5.keep {w wr W' : World} {n N : Nat} {a2 : Int} {f h : Nat → Nat} {S : Nat → Prop} (x : W5 w wr n N a2 f h) (k : Keep S wr W') (hS : ∀ i, S i → w.heap.size + 9 ≤ i) : W5 w W' n N a2 f h := by
  have hb := x.big
  exact ⟨x.bs.keep k (fun i e => by have := hS i e; omega), fun i hi => (k.cell (p := ⟨w.heap.size + 6, i, none⟩) (show w.heap.size + 6 < _ by omega) (fun e => by have := hS _ e; simp only at this; omega)).trans (x.held i hi), x.before.keep k (fun e => by have := hS _ e; omega), (k.block _ (by omega) (fun e => by have := hS _ e; omega)).trans x.bud, Nat.le_trans hb k.size⟩

theorem W5.grown {w wr w1 : World} {n N : Nat} {a2 : Int} {f h : Nat → Nat} {o : Obj} (x : W5 w wr n N a2 f h) (hg : (wr.alloc o).grownBy w1 (some (w.heap.size + 9))) : W5 w w1 n N a2 f h :=
  x.keep (((Keep.refl (fun i => i = w.heap.size + 9) wr).alloc o).grown hg (fun j hj _ => by simpa using hj.symm)) (fun i e => by omega)

def wl (B : Nat) (h : Nat → Nat) (m : Nat) : List Value := (List.range m).map fun i => .pointer (some ⟨B + 1 + h i, 0, none⟩)
theorem wl_snoc (B : Nat) (h : Nat → Nat) (m : Nat) : wl B h (m + 1) = wl B h m ++ [.pointer (some ⟨B + 1 + h m, 0, none⟩)] := by
  unfold wl
  rw [List.range_succ, List.map_append]
  rfl
theorem wl_get {B : Nat} {h : Nat → Nat} {m i : Nat} (hi : i < m) : (wl B h m)[i]? = some (.pointer (some ⟨B + 1 + h i, 0, none⟩)) := by
  unfold wl
  rw [List.getElem?_map, List.getElem?_range hi]
  rfl
theorem one_ptr (a : Option Addr) : ∀ u ∈ [Value.pointer a], u.oneCell' = true := by
  intro u hu
  simp at hu
  subst hu
  rfl

theorem start5 {w wc X : World} {n q N : Nat} {jj : Int} {m : Nat → Nat} {a2 : Int} {f h : Nat → Nat} (hFin : Fin n q f jj m h N) (hB : Bs w wc) (hR : Row wc w.heap.size (w.heap.size + 6) N h) (hG : Full wc w.heap.size (w.heap.size + 7) n f n)
    (hS : wc.heap[w.heap.size + 8]? = some (.cells (bud a2 (w.heap.size + 6) N n) 56 (0, 0))) (hsz : wc.heap.size = w.heap.size + 9) (hlen : n ≤ 1024) (hX : X = wc.alloc (.cells (part w.heap.size f 0 n) 46)) :
    ∃ k : Nat, k ≤ n ∧ Value.int .i64 0 = .int .i64 k ∧ Value.slice (some ⟨w.heap.size + 9, 0, none⟩) 0 n = .slice (some ⟨w.heap.size + 9, 0, none⟩) (m k) n ∧ W5 w X n N a2 f h ∧ X.ownsRow (w.heap.size + 9) 46 1 (.slice (some ⟨w.heap.size + 9, 0, none⟩) (m k) n) (m k) (wl w.heap.size h (m k)) := by
  have kX : Keep (fun _ => False) wc X := by subst hX; exact (Keep.refl _ _).alloc _
  refine ⟨0, Nat.zero_le _, rfl, by rw [hFin.m0], ⟨hB.keep kX (fun _ e => e.elim), fun i hi => (kX.cell (p := ⟨w.heap.size + 6, i, none⟩) (show w.heap.size + 6 < _ by omega) (fun e => e)).trans (hR i hi), hG.keep kX (fun e => e), (kX.block _ (by omega) (fun e => e)).trans hS, by subst hX; simp [hsz]⟩, ?_⟩
  rw [hFin.m0]
  have hF := Full.made wc w.heap.size n f
  rw [hsz] at hF
  subst hX
  exact ⟨rfl, Or.inr ⟨w.heap.size + 9, n, _, rfl, Nat.le_refl _, hF, Nat.zero_le _, by unfold maxLen; omega, by rw [part_size]; omega, rfl⟩⟩

set_option maxRecDepth 100000 in
set_option maxHeartbeats 1000000 in
theorem walkB (a0 : Option Addr) (n cap0 : Nat) (b off : Nat) (zs : List Int) (a1 : Int) (a2 : Int) (w : World) (hlen : n ≤ 1024) (hsl : Sl w a0 n zs b off) (hs1 : 0 ≤ a1) (hs2 : a1 ≤ 255) :
    Calls Yba.prog 5 #[.slice a0 n cap0, .int .u8 a1, .int .i64 a2] w fun e w' => e = .returned (.bool true) ∧ Below w.heap.size w w' := by
  have hmk := make53 w.heap.size (fz zs) n hlen
  have hmz := make53z w.heap.size (fz zs) n hlen
  go_enter Yba.func5, Yba.ntmps5
  go_wp2
  go_loopw [8] (fun i wr => ∃ k : Nat, k ≤ 5 ∧ i = .int .i64 k ∧ R1 w k wr) (fun i _ => 5 - (intOf i).toNat)
  case atStart => exact ⟨0, by omega, rfl, R1_start w⟩
  case round =>
    obtain ⟨k, hk, rfl, hr⟩ := hrel
    by_cases hlt : k < 5
    · have hc := (cell_block hr.1 k).trans (pool_at hlt)
      have hfz := free_block hr.1 k
      have hsz := hr.2.2.2
      have hc' := fun o => (World.cell?_of_block (a := ⟨w.heap.size, k, none⟩) (w := wr) (old_alloc wr o (show w.heap.size < _ by omega))).trans hc
      have hfz' := fun o => (World.frozen?_of_block (a := ⟨w.heap.size, k, none⟩) (w := wr) (old_alloc wr o (show w.heap.size < _ by omega))).trans hfz
      go_wp2
      go_roundw
      case rel => exact ⟨k + 1, by omega, by go_num, R1_step hr hlt rfl⟩
      case measure => simp [intOf]; omega
    · obtain rfl : k = 5 := by omega
      have hsz := hr.2.2.2
      have hB := R1_end hr
      clear hr
      go_wp2
      go_loopw [10] (fun i wr => ∃ k : Nat, k ≤ n ∧ i = .int .i64 k ∧ Bs w wr ∧ Full wr w.heap.size (w.heap.size + 6) n (fz zs) k ∧ wr.heap.size = w.heap.size + 7) (fun i _ => n - (intOf i).toNat)
      case atStart => exact ⟨0, Nat.zero_le _, rfl, hB.keep ((Keep.refl (fun _ => False) _).alloc _) (fun _ h => h.elim), (by have := Full.made wr w.heap.size n (fz zs); rw [hsz] at this; exact this), by simp [hsz]⟩
      case round =>
        obtain ⟨k, hk, rfl, hB1, hF, hsz1⟩ := hrel
        by_cases hlt : k < n
        · have hix := hsl.index hlt cap0
          have hcx := hsl.cellAt hB1.bel hlt
          have hbd := hsl.bd k hlt
          have hcp : wr.cell? ⟨w.heap.size, (gz zs k % 4).toNat, none⟩ = some (.pointer (some ⟨w.heap.size + 1 + fz zs k, 0, none⟩)) := (cell_block hB1.pool _).trans (pool_get (by omega))
          have hcn := hF.nilAt hlt
          have hfr := free_block hF k
          obtain ⟨hbd1, hbd2⟩ := hbd
          go_wp2
          go_roundw
          case rel => exact ⟨k + 1, by omega, by go_num, hB1.keep ((Keep.refl (fun i => i = w.heap.size + 6) _).setCell (p := ⟨w.heap.size + 6, k, none⟩) (fun _ => rfl) _) (fun _ h => by omega), hF.set hlt, by simp [hsz1]⟩
          case measure => simp [intOf]; omega
        · obtain rfl : n = k := by omega
          go_wp2
          go_loopw [12] (fun i wr => ∃ j : Nat, j ≤ n ∧ i = .int .i64 j ∧ Bs w wr ∧ Full wr w.heap.size (w.heap.size + 6) n (fz zs) n ∧ Full wr w.heap.size (w.heap.size + 7) n (fz zs) j ∧ wr.heap.size = w.heap.size + 8) (fun i _ => n - (intOf i).toNat)
          case atStart => exact ⟨0, Nat.zero_le _, rfl, hB1.keep ((Keep.refl (fun _ => False) _).alloc _) (fun _ h => h.elim), hF.keep ((Keep.refl (fun _ => False) _).alloc _) (fun h => h), (by have := Full.made wr w.heap.size n (fz zs); rw [hsz1] at this; exact this), by simp [hsz1]⟩
          case round =>
            clear hB1 hF hsz1 hB hsz
            obtain ⟨j, hj, rfl, hB, hF, hG, hsz⟩ := hrel
            by_cases hlt : j < n
            · have hcx := hF.row j hlt
              have hcn := hG.nilAt hlt
              have hfr := free_block hG j
              go_wp2
              go_roundw
              case rel => exact ⟨j + 1, by omega, by go_num, hB.keep ((Keep.refl (fun i => i = w.heap.size + 7) _).setCell (p := ⟨w.heap.size + 7, j, none⟩) (fun _ => rfl) _) (fun _ h => by omega), hF.keep ((Keep.refl (fun i => i = w.heap.size + 7) _).setCell (p := ⟨w.heap.size + 7, j, none⟩) (fun _ => rfl) _) (by omega), hG.set hlt, by simp [hsz]⟩
              case measure => simp [intOf]; omega
            · obtain rfl : n = j := by omega
              obtain ⟨q, hq, hqd⟩ : ∃ q : Nat, q < 5 ∧ Hid (q = (a1 % 5).toNat) := ⟨_, by omega, rfl⟩
              have hcp : wr.cell? ⟨w.heap.size, (a1 % 5).toNat, none⟩ = some (.pointer (some ⟨w.heap.size + 1 + q, 0, none⟩)) := by rw [← hqd.out]; exact (cell_block hB.pool _).trans (pool_get hq)
              have hf5 : ∀ i, fz zs i < 5 := fun i => by unfold fz; omega
              go_upto_region 20 with fail
              go_cut [] from 79 to 81 (fun wx => ∃ (jj : Int) (m : Nat → Nat) (h : Nat → Nat) (N : Nat), Fin n q (fz zs) jj m h N ∧ Bs w wx ∧ Row wx w.heap.size (w.heap.size + 6) N h ∧ Full wx w.heap.size (w.heap.size + 7) n (fz zs) n ∧ wx.heap[w.heap.size + 8]? = some (.cells (bud a2 (w.heap.size + 6) N n) 56 (0, 0)) ∧ wx.heap.size = w.heap.size + 9)
              case first =>
                obtain ⟨X, hX⟩ : ∃ X, X = wr.alloc (.cells (bud a2 (w.heap.size + 6) n n) 56) := ⟨_, rfl⟩
                have kX : Keep (fun _ => False) wr X := by subst hX; exact (Keep.refl _ _).alloc _
                have sX : X.heap[w.heap.size + 8]? = some (.cells (bud a2 (w.heap.size + 6) n n) 56 (0, 0)) := by
                  have := at_alloc wr (.cells (bud a2 (w.heap.size + 6) n n) 56)
                  rw [hsz] at this
                  subst hX
                  exact this
                have zX : X.heap.size = w.heap.size + 9 := by subst hX; simp [hsz]
                have bX := hB.keep kX (fun _ h => h.elim)
                have fX := hF.keep kX (fun h => h)
                have gX := hG.keep kX (fun h => h)
                have HX : Hid (X = wr.alloc (.cells (bud a2 (w.heap.size + 6) n n) 56)) := hX
                clear hX
                rcases first_or_none (fz zs) q n with hno | ⟨x, hx, hxq, hxl⟩
                · go_wp2_with (go_at_call 11; rw [show wr.alloc (.cells #[.int .i64 a2, .slice (some ⟨w.heap.size + 1 + 5, 0, none⟩) n n] 56) = X from HX.out.symm]; refine (release_none w.heap.size (w.heap.size + 6) (w.heap.size + 8) n q a2 (fz zs) X sX bX.plans fX.row hf5 hq hlen hno).mono ?_)
                  rintro e w1 ⟨rfl, rfl⟩
                  go_wp2
                  go_meet
                  case rel => exact ⟨_, _, _, _, Fin_none hf5 hno, bX, fX.row, gX, sX, zX⟩
                · go_wp2_with (go_at_call 11; rw [show wr.alloc (.cells #[.int .i64 a2, .slice (some ⟨w.heap.size + 1 + 5, 0, none⟩) n n] 56) = X from HX.out.symm]; refine (release_found w.heap.size (w.heap.size + 6) (w.heap.size + 8) n q x a2 (fz zs) X sX bX.plans fX.row (free_block fX) (by omega) hf5 hq hlen hx hxq hxl).mono ?_)
                  rintro e w1 ⟨rfl, hR1, hS1, k1, z1⟩
                  go_wp2
                  go_meet
                  case rel => exact ⟨_, _, _, _, Fin_some hf5 hx hxq hxl, bX.keep k1 (fun _ h => by omega), hR1, gX.keep k1 (by omega), hS1, z1.trans zX⟩
              case rest =>
                obtain ⟨jj, m, h, N, hFin, hB2, hR, hG2, hS, hsz2⟩ := hcut
                clear hB hF hG hsz hcp hqd
                go_upto_block 6 with fail
                go_cut [15, 16] from 82 to 94 (fun s15 s16 wx => s15 = .int .i64 jj ∧ wx = wc)
                case first =>
                  rcases hFin.find with ⟨hj, hno⟩ | ⟨x, hj, hx, hxq, hxl⟩
                  · have Hj : Hid (jj = -1) := hj
                    clear hj
                    go_wp2
                    go_loop [15, 16] (fun j i => ∃ k : Nat, k ≤ n ∧ i = .int .i64 k ∧ j = .int .i64 (-1)) (fun _ i => n - (intOf i).toNat)
                    case atStart => exact ⟨0, Nat.zero_le _, rfl, rfl⟩
                    case round =>
                      obtain ⟨k, hk, rfl, rfl⟩ := hrel
                      by_cases hkn : k < n
                      · have hc := hG2.row k hkn
                        have he := eql_plan hB2.plans (hf5 k) hq
                        have hb : (fz zs k == q) = false := by have := hno k hkn; simp; omega
                        rw [hb] at he
                        go_wp2
                        go_round
                        case rel => exact ⟨k + 1, by omega, by go_num, rfl⟩
                        case measure => simp [intOf]; omega
                      · go_wp2
                        go_meet
                        case rel => exact ⟨congrArg (Value.int .i64) Hj.out.symm, rfl⟩
                  · have Hj : Hid (jj = x ∧ fz zs x = q) := ⟨hj, hxq⟩
                    clear hj hxq
                    go_wp2
                    go_loop [16] (fun i => ∃ k : Nat, k ≤ x ∧ i = .int .i64 k) (fun i => n - (intOf i).toNat)
                    case atStart => exact ⟨0, Nat.zero_le _, rfl⟩
                    case round =>
                      obtain ⟨k, hk, rfl⟩ := hrel
                      have hkn : k < n := by omega
                      have hc := hG2.row k hkn
                      have he := eql_plan hB2.plans (hf5 k) hq
                      by_cases hkx : k < x
                      · have hb : (fz zs k == q) = false := by have := hxl k hkx; simp; omega
                        rw [hb] at he
                        go_wp2
                        go_round
                        case rel => exact ⟨k + 1, by omega, by go_num⟩
                        case measure => simp [intOf]; omega
                      · obtain rfl : x = k := by omega
                        have hb : (fz zs x == q) = true := by rw [Hj.out.2]; simp
                        rw [hb] at he
                        go_wp2
                        go_meet
                        case rel => exact ⟨congrArg (Value.int .i64) Hj.out.1.symm, rfl⟩
                case rest =>
                  obtain ⟨rfl, rfl⟩ := hcut
                  go_wp2
                  go_loopw [17, 18] (fun v i wr => ∃ k : Nat, k ≤ n ∧ i = .int .i64 k ∧ v = .slice (some ⟨w.heap.size + 9, 0, none⟩) (m k) n ∧ W5 w wr n N a2 (fz zs) h ∧ wr.ownsRow (w.heap.size + 9) 46 1 (.slice (some ⟨w.heap.size + 9, 0, none⟩) (m k) n) (m k) (wl w.heap.size h (m k))) (fun _ i _ => n - (intOf i).toNat)
                  case atStart => exact start5 hFin hB2 hR hG2 hS hsz2 hlen rfl
                  case round =>
                    obtain ⟨k, hk, rfl, rfl, h5, hown⟩ := hrel
                    by_cases hkn : k < n
                    · have hc := h5.before.row k hkn
                      have hmk := hFin.mle k
                      by_cases hkj : (k : Int) = jj
                      · have hb : ((k : Int) != jj) = false := by simp [hkj]
                        have hs := hFin.same k hkn hkj
                        have Hs : Hid (m (k + 1) = m k) := hs
                        clear hkj hs
                        go_wp2
                        go_roundw
                        case rel => exact ⟨k + 1, by omega, by go_num, by rw [Hs.out], h5, by rw [Hs.out]; exact hown⟩
                        case measure => simp [intOf]; omega
                      · have hb : ((k : Int) != jj) = true := by simp [hkj]
                        have hs := hFin.next k hkn hkj
                        have Hs : Hid (m (k + 1) = m k + 1 ∧ h (m k) = fz zs k) := hs
                        obtain ⟨i0, hi0, hz0, hz1, hz2⟩ := info46
                        clear hkj hs
                        go_wp2_with (at_builtin; refine wpList_append_fits _ rfl (.tmp 107) (.tmp 112) 53 rfl (w.heap.size + 9) 46 i0 1 Yba.underlying53 hi0 hz1 (w.heap.size + 9) (m k) n _ rfl (hown.alloc _) ⟨wr.heap.size, 0, none⟩ 1 1 [.pointer (some ⟨w.heap.size + 1 + fz zs k, 0, none⟩)] rfl rfl (cell_one_new _ _ _) (one_ptr _) (by omega) ?_)
                        intro w1 hown1 hg1
                        go_wp2
                        go_roundw
                        case rel => (repeat apply Exists.intro); exact ⟨⟨k + 1, by omega, by go_num, by rw [Hs.out.1], h5.grown hg1, by rw [Hs.out.1, wl_snoc, Hs.out.2]; exact hown1⟩, rfl⟩
                        case measure => simp [intOf]; omega
                    · obtain rfl : n = k := by omega
                      have b0 := cell_block h5.bud 0
                      have b1 := cell_block h5.bud 1
                      simp [bud] at b0 b1
                      have hmN := hFin.mn
                      have hNle := hFin.mle n
                      rw [hmN] at hown hNle
                      go_wp2
                      go_loopw [19] (fun i wr => ∃ k : Nat, k ≤ N ∧ i = .int .i64 k ∧ W5 w wr n N a2 (fz zs) h ∧ wr.ownsRow (w.heap.size + 9) 46 1 (.slice (some ⟨w.heap.size + 9, 0, none⟩) N n) N (wl w.heap.size h N)) (fun i _ => N - (intOf i).toNat)
                      case atStart => exact ⟨0, Nat.zero_le _, rfl, h5, hown⟩
                      case round =>
                        clear h5 hown b0 b1
                        obtain ⟨k, hk, rfl, h5, hown⟩ := hrel
                        by_cases hkN : k < N
                        · have b1 := cell_block h5.bud 1
                          simp [bud] at b1
                          have hc1 := h5.held k hkN
                          have hc2 := (hown.cellAt k (by omega)).trans (wl_get hkN)
                          have he : ∀ nq, (binOp .neq 46 (.pointer (some ⟨w.heap.size + 1 + h k, 0, none⟩)) (.pointer (some ⟨w.heap.size + 1 + h k, 0, none⟩))).run Yba.prog (wr.drewN nq) = .ok (.bool false) (wr.drewN nq) := fun nq => by
                            have := neq_plan (W := wr.drewN nq) (B := w.heap.size) (s := h k) (t := h k) h5.bs.plans (hFin.h5 k) (hFin.h5 k)
                            simpa using this
                          have hi1 : (0 : Int) ≤ (k : Int) := by omega
                          have hi2 : (k : Int) < (N : Int) := by omega
                          go_wp2
                          go_quiet (fail)
                          go_wp2
                          go_roundw
                          case rel => exact ⟨k + 1, by omega, by go_num, h5.keep ((Keep.refl (fun _ => False) wr).drewN nq) (fun _ e => e.elim), hown⟩
                          case measure => simp [intOf]; omega
                        · obtain rfl : N = k := by omega
                          go_wp2
                          go_loop [20] (fun i => ∃ k : Nat, k ≤ 5 ∧ i = .int .i64 k) (fun i => 5 - (intOf i).toNat)
                          case atStart => exact ⟨0, Nat.zero_le _, rfl⟩
                          case round =>
                            obtain ⟨k, hk5, rfl⟩ := hrel
                            by_cases hk : k < 5
                            · have hcp := (cell_block h5.bs.pool k).trans (pool_get hk)
                              have p0 := cell_block (h5.bs.plans k hk) 0
                              have p1 := cell_block (h5.bs.plans k hk) 1
                              have p2 := cell_block (h5.bs.plans k hk) 2
                              have p3 := cell_block (h5.bs.plans k hk) 3
                              have p4 := cell_block (h5.bs.plans k hk) 4
                              have p5 := cell_block (h5.bs.plans k hk) 5
                              simp [plan] at p0 p1 p2 p3 p4 p5
                              go_wp2
                              go_round
                              case rel => exact ⟨k + 1, by omega, by go_num⟩
                              case measure => simp [intOf]; omega
                            · go_wp2
                              go_ret
                              exact ⟨rfl, h5.bs.bel⟩
end Go.Proofs.Ybulkcxce.Rel
