/- Maps that the call itself makes, read entry by entry as they are: the ghost datum D has the element's own value at each key. -/
import Derived.Test.YbulkcxceRows
import Derived.WalkKit
import Derived.Maps.OwnSet
import Derived.Maps.RangeWalk
import Derived.Below
namespace Go.Proofs.Ybulkcxce
open Go Go.Maps Go.RowKit

/-- An element reads as itself. -/
def itself (v : Value) : Option (DataW Value × List MemPlace) := some (.held v, [])

/-- What stands at a key; z where there is none. -/
def look (D : DataW Value) (kl : Lit) (z : Value) : Value := match D.atKey kl (.held z) with | .held v => v | _ => z

theorem look_of {D : DataW Value} {kl : Lit} {z v : Value} {ps : List MemPlace} (h : itself v = some (D.atKey kl (.held z), ps)) : look D kl z = v := by
  unfold itself at h
  simp only [Option.some.injEq, Prod.mk.injEq] at h
  unfold look
  rw [← h.1]

theorem look_put_same {D : DataW Value} {kl : Lit} (hD : IsMap D) (hk : WideAt.IsKeyLit kl) (v z : Value) : look (D.put kl (.held v)) kl z = v := by
  unfold look
  rw [atKey_put_same hD hk]

theorem look_put_other {D : DataW Value} {kl kl' : Lit} (hne : kl' ≠ kl) (v z : Value) : look (D.put kl (.held v)) kl' z = look D kl' z := by
  unfold look
  rw [atKey_put_other hne]

theorem look_empty (kl : Lit) (z : Value) : look (.map []) kl z = z := rfl
theorem has_empty (kl : Lit) : has (.map [] : DataW Value) kl = false := rfl
theorem size_empty : size (.map [] : DataW Value) = 0 := rfl

/-- The block b of w is a map of at most n entries, which reads as D. -/
def Mp (w : World) (k : TypeId) (b n : Nat) (D : DataW Value) : Prop := w.ownsMap Yba.prog k itself b n D

section
variable {w : World} {k : TypeId} {b n : Nat} {D : DataW Value}

theorem Mp.lt (h : Mp w k b n D) : b < w.heap.size := World.ownsMap.lt h
theorem Mp.isMap (h : Mp w k b n D) : IsMap D := World.ownsMap.isMap h
theorem Mp.tidy (h : Mp w k b n D) (K : Keyed Yba.prog k) : Tidy D := World.ownsMap.tidy h K
theorem Mp.alloc (h : Mp w k b n D) (o : Obj) : Mp (w.alloc o) k b n D := World.ownsMap.alloc h o
theorem Mp.drew (h : Mp w k b n D) : Mp w.drew k b n D := World.ownsMap.drew h
theorem Mp.mono (h : Mp w k b n D) {n' : Nat} (hn : n ≤ n') : Mp w k b n' D := World.ownsMap.mono h hn
theorem Mp.setCell (h : Mp w k b n D) {a : Addr} (ha : b ≠ a.block) (u : Value) : Mp (w.setCell a u) k b n D := World.ownsMap.setCell h ha u
theorem Mp.kept {w' : World} {row : Option Nat} (h : Mp w k b n D) (hg : w.grownBy w' row) (hne : some b ≠ row) : Mp w' k b n D := World.ownsMap.kept h hg hne
theorem Mp.ne_cells {c : Nat} {xs : Array Value} {t : TypeId} {fz : Nat × Nat} (h : Mp w k b n D) (hc : w.heap[c]? = some (.cells xs t fz)) : b ≠ c := by
  obtain ⟨es, clock, hb, _⟩ := h
  intro e
  subst e
  rw [hb] at hc
  cases hc
/-- Any two worlds with the same block there. -/
theorem Mp.of_block {w' : World} (h : Mp w k b n D) (e : w'.heap[b]? = w.heap[b]?) : Mp w' k b n D := by
  obtain ⟨es, clock, hb, r⟩ := h
  exact ⟨es, clock, e.trans hb, r⟩
end

theorem Mp_made (w : World) (k : TypeId) : Mp (w.alloc (.map #[] 0)) k w.heap.size 0 (.map []) := World.ownsMap_made w Yba.prog k itself

theorem run_makeMap_room {t k e : TypeId} (ht : Yba.prog.underlying t = some (.map k e)) (q : IntKind) (n : Int) (w : World) :
    (Instr.makeMap t (some (.int q n))).run Yba.prog w = .ok (.map (some w.heap.size)) (w.alloc (.map #[] 0)) := by
  simp [Instr.makeMap, run_underlying ht, asInt, Result.andThen]
  rfl

/-! ### a cell of another block, behind a store into a map -/
theorem grown_cell {w w1 : World} {row : Option Nat} (h : w.grownBy w1 row) {a : Addr} (hlt : a.block < w.heap.size) (hne : some a.block ≠ row) : w1.cell? a = w.cell? a :=
  World.cell?_of_block (w := w) (h.block a.block hlt hne)
theorem grown_frozen {w w1 : World} {row : Option Nat} (h : w.grownBy w1 row) {a : Addr} (hlt : a.block < w.heap.size) (hne : some a.block ≠ row) : w1.frozen? a = w.frozen? a :=
  World.frozen?_of_block (w := w) (h.block a.block hlt hne)

/-! ### the laws at the operations -/
section
variable (w : World) {ops : Array Oper} {rest : List Oper} {o : Oper} {a : Act} {Q : Exit → Act → World → Prop}

/-- An operation that is to run: it bears no guard, or its guard says yes. -/
theorem wpList_wanted {P : Program} (hg : Region.wanted o (yielded ops a.tmps) = true)
    (h : ∀ K : Act → World → Prop, (∀ a w, wpList P ops Q rest a w → K a w) → o.wp P a w K Q) : wpList P ops Q (o :: rest) a w :=
  wpList_step fun K hK => by simp only [hg, if_true]; exact h K hK

/-- 'm[k]'. -/
theorem wpList_look (hg : Region.wanted o (yielded ops a.tmps) = true) (m x : Operand) (t : TypeId) (hop : o.op = Op.lookup t m x false)
    (k e : TypeId) (K : Keyed Yba.prog k) (ht : Yba.prog.underlying t = some (.map k e)) {z : Value} (hz : (zeroValue e).run Yba.prog w = .ok z w) (b n : Nat) (D : DataW Value)
    (hm : a.eval m = .map (some b)) (hown : Mp w k b n D) (key : Value) (kl : Lit) (hx : a.eval x = key) (hkey : keyOf Yba.prog k key = some kl) (v : Value) (hv : look D kl z = v)
    (hK : wpList Yba.prog ops Q rest (a.put o.dst v) w) :
    wpList Yba.prog ops Q (o :: rest) a w := by
  refine wpList_wanted w hg fun K' hK' => ?_
  obtain ⟨v', ps, hrun, hv'⟩ := World.ownsMap.lookup hown K ht hz (R := itself) (zd := .held z) (zp := []) rfl hkey
  have e1 := look_of hv'
  rw [hv] at e1
  subst e1
  unfold Oper.wp
  simp [execOp, hop, hm, hx, hrun, Result.andThen]
  exact hK' _ _ hK

/-- 'v, ok := m[k]'. -/
theorem wpList_look_ok (hg : Region.wanted o (yielded ops a.tmps) = true) (m x : Operand) (t : TypeId) (hop : o.op = Op.lookup t m x true)
    (k e : TypeId) (K : Keyed Yba.prog k) (ht : Yba.prog.underlying t = some (.map k e)) {z : Value} (hz : (zeroValue e).run Yba.prog w = .ok z w) (b n : Nat) (D : DataW Value)
    (hm : a.eval m = .map (some b)) (hown : Mp w k b n D) (key : Value) (kl : Lit) (hx : a.eval x = key) (hkey : keyOf Yba.prog k key = some kl) (v : Value) (hv : look D kl z = v) (y : Bool) (hy : has D kl = y)
    (hK : wpList Yba.prog ops Q rest (a.put o.dst (.tuple #[v, .bool y])) w) :
    wpList Yba.prog ops Q (o :: rest) a w := by
  refine wpList_wanted w hg fun K' hK' => ?_
  obtain ⟨v', ps, hrun, hv'⟩ := World.ownsMap.look_ok hown K ht hz (R := itself) (zd := .held z) (zp := []) rfl hkey
  have e1 := look_of hv'
  rw [hv] at e1
  subst e1
  subst hy
  unfold Oper.wp
  simp [execOp, hop, hm, hx, hrun, Result.andThen]
  exact hK' _ _ hK

/-- 'm[k] = v'. -/
theorem wpList_put (hg : Region.wanted o (yielded ops a.tmps) = true) (m x v : Operand) (t : TypeId) (hop : o.op = Op.mapUpdate t m x v)
    (k e : TypeId) (K : Keyed Yba.prog k) (ht : Yba.prog.underlying t = some (.map k e)) (b n : Nat) (D : DataW Value)
    (hm : a.eval m = .map (some b)) (hown : Mp w k b n D) (hn : n < maxLen) (key val : Value) (kl : Lit) (hx : a.eval x = key) (hv : a.eval v = val) (hkey : keyOf Yba.prog k key = some kl)
    (hK : ∀ w', Mp w' k b (n + 1) (D.put kl (.held val)) → w.grownBy w' (some b) → w'.heap.size = w.heap.size → wpList Yba.prog ops Q rest (a.put o.dst undef) w') :
    wpList Yba.prog ops Q (o :: rest) a w := by
  refine wpList_wanted w hg fun K' hK' => ?_
  obtain ⟨w', hrun, r1, r2⟩ := World.ownsMap.store hown K ht hn hkey (R := itself) (d := .held val) (ps := []) rfl
  unfold Oper.wp
  simp [execOp, hop, hm, hx, hv, hrun, Result.andThen]
  refine hK' _ _ (hK w' r1 r2.grown ?_)
  obtain ⟨_, _, _, _, _, rfl⟩ := r2
  simp [ChangeMaps.setBlock]

/-- 'len(m)'. -/
theorem wpList_len_is (hg : Region.wanted o (yielded ops a.tmps) = true) (m : Operand) (t : TypeId) (hop : o.op = Op.call { callee := Callee.builtin Builtin.len, args := #[m], argTypes := #[t] })
    (k e : TypeId) (ht : Yba.prog.underlying t = some (.map k e)) (b n : Nat) (D : DataW Value) (hm : a.eval m = .map (some b)) (hown : Mp w k b n D) (c : Nat) (hc : size D = c)
    (hK : wpList Yba.prog ops Q rest (a.put o.dst (.int .i64 c)) w) :
    wpList Yba.prog ops Q (o :: rest) a w := by
  refine wpList_wanted w hg fun K' hK' => ?_
  unfold Oper.wp
  simp [execOp, hop, resolve, invoke, builtin, hm, World.ownsMap.len hown ht o.type, Result.andThen]
  rw [hc]
  exact hK' _ _ hK

end

/-- The same store, as an equation on the run: for a region that draws its order. -/
theorem run_put {w : World} {t k e : TypeId} {b n : Nat} {D : DataW Value} (h : Mp w k b n D) (K : Keyed Yba.prog k) (ht : Yba.prog.underlying t = some (.map k e)) (hn : n < maxLen) {key : Value} (val : Value) {kl : Lit} (hkey : keyOf Yba.prog k key = some kl) :
    ∃ w', (Instr.mapUpdate t (.map (some b)) key val).run Yba.prog w = .ok () w' ∧ Mp w' k b (n + 1) (D.put kl (.held val)) ∧ w.grownBy w' (some b) ∧ w'.heap.size = w.heap.size := by
  obtain ⟨w', hrun, r1, r2⟩ := World.ownsMap.store h K ht hn hkey (R := itself) (val := val) (d := .held val) (ps := []) rfl
  refine ⟨w', hrun, r1, r2.grown, ?_⟩
  obtain ⟨_, _, _, _, _, rfl⟩ := r2
  simp [ChangeMaps.setBlock]

theorem lawS : Keyed Yba.prog 9 := string_keyed Yba.underlying9
theorem keyS {s : ByteArray} (h : s.size ≤ maxLen) : keyOf Yba.prog 9 (.string s) = some (.string s.data.toList) := WideMaps.keyOf_string_mk Yba.underlying9 h

end Go.Proofs.Ybulkcxce
