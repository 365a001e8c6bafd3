import Derived.Test.YbulkcxcsFmtSpend
import Derived.Deep.DeepAppendRoom
import Derived.Deep.AppendLies
namespace Go.Proofs.YbulkcxcsFmt
open Go Go.RowKit
set_option linter.unusedVariables false

/-- One item. -/
structure It where
  arr : Bool
  vals : List Int
  v : Int

def ifc (x : Int) : Value := .iface 3 (.int .i64 x)
def It.flat (t : It) : List Int := if t.arr then t.vals else [t.v]
def It.cnt (t : It) : Nat := if t.arr then t.vals.length else 0
def flat (ts : List It) : List Int := ts.flatMap It.flat
def tot (ts : List It) : Nat := (ts.map It.cnt).sum

theorem flat_take {ts : List It} {k : Nat} {t : It} (h : ts[k]? = some t) : flat (ts.take (k + 1)) = flat (ts.take k) ++ t.flat := by
  have hk := (List.getElem?_eq_some_iff.1 h).1
  rw [List.take_succ_eq_append_getElem hk, flat, List.flatMap_append]
  simp [(List.getElem?_eq_some_iff.1 h).2, flat]
theorem tot_take {ts : List It} {k : Nat} {t : It} (h : ts[k]? = some t) : tot (ts.take (k + 1)) = tot (ts.take k) + t.cnt := by
  have hk := (List.getElem?_eq_some_iff.1 h).1
  rw [List.take_succ_eq_append_getElem hk, tot, List.map_append, List.sum_append]
  simp [(List.getElem?_eq_some_iff.1 h).2, tot]
theorem flat_len_le : ∀ ts : List It, (flat ts).length ≤ tot ts + ts.length
  | [] => Nat.le_refl _
  | t :: r => by
    have ih := flat_len_le r
    have h1 : t.flat.length ≤ t.cnt + 1 := by unfold It.flat It.cnt; split <;> simp
    show (t.flat ++ flat r).length ≤ (t.cnt + tot r) + (r.length + 1)
    rw [List.length_append]
    omega
theorem tot_le {m : Nat} : ∀ ts : List It, (∀ t ∈ ts, t.vals.length ≤ m) → tot ts ≤ ts.length * m
  | [], _ => Nat.zero_le _
  | t :: r, h => by
    have ih := tot_le r (fun x hx => h x (List.mem_cons_of_mem _ hx))
    have h1 : t.cnt ≤ m := by
      have := h t List.mem_cons_self
      unfold It.cnt; split <;> omega
    show t.cnt + tot r ≤ (r.length + 1) * m
    rw [Nat.add_mul, Nat.one_mul]
    omega
theorem tot_take_le (ts : List It) (k : Nat) : tot (ts.take k) ≤ tot ts := by
  have h : tot (ts.take k ++ ts.drop k) = tot (ts.take k) + tot (ts.drop k) := by unfold tot; rw [List.map_append, List.sum_append]
  rw [List.take_append_drop] at h
  omega
theorem flat_take_le (ts : List It) (k : Nat) : (flat (ts.take k)).length ≤ (flat ts).length := by
  have h : (flat (ts.take k ++ ts.drop k)).length = (flat (ts.take k)).length + (flat (ts.drop k)).length := by unfold flat; rw [List.flatMap_append, List.length_append]
  rw [List.take_append_drop] at h
  omega

/-- A row of interface values that is only read. -/
def Row20 (W : World) (g : Nat) (xs : List Value) : Prop := ∃ cs fz, W.heap[g]? = some (.cells cs 20 fz) ∧ ∀ (j : Nat) (v : Value), xs[j]? = some v → cs[j]? = some v
theorem Row20.keep {W W' : World} {g : Nat} {xs : List Value} {S : Nat → Prop} (h : Row20 W g xs) (k : Keep S W W') (hS : ∀ cs fz, W.heap[g]? = some (.cells cs 20 fz) → ¬ S g) : Row20 W' g xs := by
  obtain ⟨cs, fz, hb, r⟩ := h
  exact ⟨cs, fz, (k.block g (lt_of_block hb) (hS cs fz hb)).trans hb, r⟩
theorem Row20.cell {W : World} {g : Nat} {xs : List Value} (h : Row20 W g xs) {j : Nat} {v : Value} (hj : xs[j]? = some v) : W.cell? ⟨g, j, none⟩ = some v := by
  obtain ⟨cs, fz, hb, r⟩ := h
  rw [cell_block hb]
  exact r j v hj
theorem Row20.lt {W : World} {g : Nat} {xs : List Value} (h : Row20 W g xs) : g < W.heap.size := by
  obtain ⟨cs, fz, hb, r⟩ := h
  exact lt_of_block hb

def Elem (W : World) (t : It) (v : Value) : Prop :=
  (t.arr = true ∧ ∃ g c, v = .iface 26 (.slice (some ⟨g, 0, none⟩) t.vals.length c) ∧ Row20 W g (t.vals.map ifc)) ∨ (t.arr = false ∧ v = ifc t.v)
/-- The block g holds the arguments of merge. -/
structure ArgsAt (W : World) (g : Nat) (ts : List It) (es : List Value) : Prop where
  row : Row20 W g es
  len : es.length = ts.length
  el : ∀ (i : Nat) (t : It) (v : Value), ts[i]? = some t → es[i]? = some v → Elem W t v

theorem Elem.keep {W W' : World} {t : It} {v : Value} {S : Nat → Prop} (h : Elem W t v) (k : Keep S W W') (hS : ∀ g cs fz, W.heap[g]? = some (.cells cs 20 fz) → ¬ S g) : Elem W' t v := by
  rcases h with ⟨h1, g, c, h2, h3⟩ | h
  · exact Or.inl ⟨h1, g, c, h2, h3.keep k (hS g)⟩
  · exact Or.inr h
theorem ArgsAt.keep {W W' : World} {g : Nat} {ts : List It} {es : List Value} {S : Nat → Prop} (h : ArgsAt W g ts es) (k : Keep S W W') (hS : ∀ g cs fz, W.heap[g]? = some (.cells cs 20 fz) → ¬ S g) : ArgsAt W' g ts es :=
  ⟨h.row.keep k (hS g), h.len, fun i t v h1 h2 => (h.el i t v h1 h2).keep k hS⟩

theorem elem26 : Ybaf.prog.elem 26 = 20 := by kernel_rfl
theorem und26 : Ybaf.prog.underlying 26 = some (.slice (Ybaf.prog.elem 26)) := by kernel_rfl
theorem sizeOf20 (W : World) : (sizeOf 20).run Ybaf.prog W = .ok 1 W := by kernel_rfl
theorem addr_add (g off i : Nat) : (⟨g, off, none⟩ : Addr).add i = ⟨g, off + i, none⟩ := by
  unfold Addr.add
  split <;> simp_all
theorem index_any {t s : Nat} (hu : Ybaf.prog.underlying t = some (.slice (Ybaf.prog.elem t))) (hs : ∀ W, (sizeOf (Ybaf.prog.elem t)).run Ybaf.prog W = .ok s W) {a : Option Addr} {n c b off k : Nat} (ha : 0 < n → a = some ⟨b, off, none⟩) (hk : k < n) (W : World) :
    (Instr.indexAt t (.slice a n c) (.int .i64 k)).run Ybaf.prog W = .ok (.pointer (some ⟨b, off + k * s, none⟩)) W := by
  rw [ha (by omega), run_indexAt_slice (h := hu), if_pos (by omega), hs]
  simp only [Result.andThen, Int.toNat_natCast, addr_add]
theorem index26 {g n k : Nat} (c : Nat) (hk : k < n) (W : World) : (Instr.indexAt 26 (.slice (some ⟨g, 0, none⟩) n c) (.int .i64 k)).run Ybaf.prog W = .ok (.pointer (some ⟨g, k, none⟩)) W := by
  have := index_any und26 (fun W => by rw [elem26]; exact sizeOf20 W) (a := some ⟨g, 0, none⟩) (c := c) (b := g) (off := 0) (fun _ => rfl) hk W
  rwa [Nat.zero_add, Nat.mul_one] at this

theorem info20 : ∃ i0, Ybaf.prog.info? 20 = some i0 ∧ i0.zero = some .nilIface ∧ i0.size = 1 ∧ i0.bytes = 16 := by
  have h : (Ybaf.prog.info? 20).map (fun i => (i.zero, i.size, i.bytes)) = some (some .nilIface, 1, 16) := by kernel_rfl
  cases hj : Ybaf.prog.info? 20 with
  | none => rw [hj] at h; cases h
  | some j => rw [hj] at h; simp at h; exact ⟨j, rfl, h.1, h.2.1, h.2.2⟩
theorem info3 : ∃ i0, Ybaf.prog.info? 3 = some i0 ∧ i0.zero = some (.int .i64 0) ∧ i0.size = 1 ∧ i0.bytes = 8 := by
  have h : (Ybaf.prog.info? 3).map (fun i => (i.zero, i.size, i.bytes)) = some (some (.int .i64 0), 1, 8) := by kernel_rfl
  cases hj : Ybaf.prog.info? 3 with
  | none => rw [hj] at h; cases h
  | some j => rw [hj] at h; simp at h; exact ⟨j, rfl, h.1, h.2.1, h.2.2⟩

theorem hown_keep {w w' : World} {base e size n : Nat} {v : Value} {xs : List Value} {S : Nat → Prop} (h : w.ownsRow base e size v n xs) (k : Keep S w w') (hS : ∀ g cs fz, v.ownBlock = some g → w.heap[g]? = some (.cells cs e fz) → ¬ S g) : w'.ownsRow base e size v n xs := by
  obtain ⟨h1, h2⟩ := h
  refine ⟨h1, ?_⟩
  rcases h2 with h2 | ⟨g, cap, cur, rfl, hg, hb, r⟩
  · exact Or.inl h2
  · exact Or.inr ⟨g, cap, cur, rfl, hg, (k.block g (lt_of_block hb) (hS g _ _ rfl hb)).trans hb, r⟩
theorem hown_alloc {w : World} {base e size n : Nat} {v : Value} {xs : List Value} (h : w.ownsRow base e size v n xs) (o : Obj) : (w.alloc o).ownsRow base e size v n xs :=
  hown_keep h ((Keep.refl (fun _ => False) w).alloc o) (fun _ _ _ _ _ e => e)

theorem assert_26 (s : Value) (w : World) : (Instr.typeAssert (.iface 26 s) 20 26 true).run Ybaf.prog w = .ok (.tuple #[s, .bool true]) w := by kernel_rfl
theorem assert_26_no (x : Value) (w : World) : (Instr.typeAssert (.iface 3 x) 20 26 true).run Ybaf.prog w = .ok (.tuple #[.slice none 0 0, .bool false]) w := by kernel_rfl
theorem assert_3 (x : Value) (w : World) : (Instr.typeAssert (.iface 3 x) 20 3 true).run Ybaf.prog w = .ok (.tuple #[x, .bool true]) w := by kernel_rfl
theorem assert_37 (x : Value) (w : World) : (Instr.typeAssert (.iface 37 x) 34 37 true).run Ybaf.prog w = .ok (.tuple #[x, .bool true]) w := by kernel_rfl

end Go.Proofs.YbulkcxcsFmt
