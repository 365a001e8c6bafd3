/- The plain laws of LawS4931CMarks: what the map 'under' holds after its rounds. -/
import Derived.Test.YbulkcxceMarksA
namespace Go.Proofs.Ybulkcxce.Marks
open Go Go.Maps Go.RowKit

def gd (ss : List ByteArray) (k : Nat) : ByteArray := ss.getD k ByteArray.empty
def eqB (a b : ByteArray) : Bool := a.toList == b.toList

def Du (ss : List ByteArray) : Nat → DataW Value
  | 0 => .map []
  | k + 1 => (Du ss k).put (kS (gd ss k)) (.held (pd k (k + 1)))

theorem isKey (s : ByteArray) : WideAt.IsKeyLit (kS s) := trivial
theorem isMap0 : IsMap (DataW.map [] : DataW Value) := isMap_empty
theorem tidy0 : Tidy (DataW.map [] : DataW Value) := tidy_empty
theorem Du_isMap (ss : List ByteArray) : ∀ k, IsMap (Du ss k)
  | 0 => isMap0
  | k + 1 => (Du_isMap ss k).put _ _
theorem Du_tidy (ss : List ByteArray) : ∀ k, Tidy (Du ss k)
  | 0 => tidy0
  | k + 1 => (Du_tidy ss k).put (isKey _) _

theorem kS_eq {a b : ByteArray} : kS a = kS b ↔ eqB a b = true := by
  unfold kS eqB
  rw [ByteArray.toList_eq, ByteArray.toList_eq]
  simp
theorem kS_ne {a b : ByteArray} : kS a ≠ kS b ↔ eqB a b = false := by
  rw [Ne, kS_eq]; simp

/-- Is o among the first k? -/
def seenB (ss : List ByteArray) (o : ByteArray) : Nat → Bool
  | 0 => false
  | k + 1 => seenB ss o k || eqB (gd ss k) o

/-- How many different ones are among the first k? -/
def nd (ss : List ByteArray) : Nat → Nat
  | 0 => 0
  | k + 1 => nd ss k + if seenB ss (gd ss k) k then 0 else 1

theorem nd_le (ss : List ByteArray) : ∀ k, nd ss k ≤ k
  | 0 => Nat.le_refl _
  | k + 1 => by have := nd_le ss k; unfold nd; split <;> omega

theorem has_Du (ss : List ByteArray) (o : ByteArray) : ∀ k, has (Du ss k) (kS o) = seenB ss o k
  | 0 => rfl
  | k + 1 => by
    show has ((Du ss k).put (kS (gd ss k)) _) (kS o) = (seenB ss o k || eqB (gd ss k) o)
    cases e : eqB (gd ss k) o
    · rw [has_put_other (fun h => (kS_ne.2 e) h.symm), has_Du ss o k]; simp
    · rw [← kS_eq.2 e, has_put_same (Du_isMap ss k) (isKey _)]; simp

theorem size_Du (ss : List ByteArray) : ∀ k, size (Du ss k) = nd ss k
  | 0 => rfl
  | k + 1 => by
    show size ((Du ss k).put (kS (gd ss k)) _) = nd ss k + if seenB ss (gd ss k) k then 0 else 1
    rw [size_put (Du_tidy ss k), has_Du, size_Du ss k]
    split <;> rfl

/-- l is the last place of o among the first k: what stands there. -/
theorem look_Du (ss : List ByteArray) (o : ByteArray) (z : Value) (l : Nat) (hl : eqB (gd ss l) o = true) : ∀ k, l < k → (∀ j, l < j → j < k → eqB (gd ss j) o = false) → look (Du ss k) (kS o) z = pd l (l + 1)
  | 0, h, _ => absurd h (Nat.not_lt_zero _)
  | k + 1, h, hj => by
    show look ((Du ss k).put (kS (gd ss k)) _) (kS o) z = _
    by_cases e : l = k
    · subst e
      rw [← kS_eq.2 hl, look_put_same (Du_isMap ss l) (isKey _)]
    · rw [look_put_other (fun h' => (kS_ne.2 (hj k (by omega) (by omega))) h'.symm)]
      exact look_Du ss o z l hl k (by omega) (fun j h1 h2 => hj j h1 (by omega))

/-- Behind 'under[h] = ..': how many. -/
theorem size_fin (ss : List ByteArray) (h : ByteArray) (k : Nat) (v : Value) : size ((Du ss k).put (kS h) (.held v)) = if seenB ss h k then nd ss k else nd ss k + 1 := by
  rw [size_put (Du_tidy ss k), has_Du, size_Du]

theorem look_fin (ss : List ByteArray) (h o : ByteArray) (z v : Value) (l k : Nat) (hne : eqB o h = false) (hl : eqB (gd ss l) o = true) (hlk : l < k) (hj : ∀ j, l < j → j < k → eqB (gd ss j) o = false) :
    look ((Du ss k).put (kS h) (.held v)) (kS o) z = pd l (l + 1) := by
  rw [look_put_other (kS_ne.2 hne)]
  exact look_Du ss o z l hl k hlk hj

/-- One that stands at j < k is among the first k. -/
theorem seen_of {ss : List ByteArray} {o : ByteArray} {j : Nat} (h : eqB (gd ss j) o = true) : ∀ {k : Nat}, j < k → seenB ss o k = true
  | 0, hk => absurd hk (Nat.not_lt_zero _)
  | k + 1, hk => by
    unfold seenB
    by_cases e : j = k
    · subst e; rw [h]; simp
    · rw [seen_of h (k := k) (by omega)]; rfl

theorem eqB_refl (a : ByteArray) : eqB a a = true := by unfold eqB; simp

theorem seen_succ {ss : List ByteArray} {o : ByteArray} {q : Nat} (h : ((gd ss q).toList == o.toList) = true) : seenB ss o (q + 1) = true := by
  unfold seenB eqB; rw [h]; simp
theorem seen_same {ss : List ByteArray} {o : ByteArray} {q : Nat} (h : ((gd ss q).toList == o.toList) = false) : seenB ss o (q + 1) = seenB ss o q := by
  show (seenB ss o q || ((gd ss q).toList == o.toList)) = _
  rw [h]; simp
theorem last_no {ss : List ByteArray} {o : ByteArray} {p s : Nat} (h : eqB (gd ss p) o = true ∧ ∀ t, p < t → t < s → eqB (gd ss t) o = false) (e : ((gd ss s).toList == o.toList) = false) :
    eqB (gd ss p) o = true ∧ ∀ t, p < t → t < s + 1 → eqB (gd ss t) o = false := by
  refine ⟨h.1, fun t h1 h2 => ?_⟩
  by_cases et : t = s
  · rw [et]; exact e
  · exact h.2 t h1 (by omega)
theorem last_yes {ss : List ByteArray} {o : ByteArray} {s : Nat} (e : ((gd ss s).toList == o.toList) = true) :
    eqB (gd ss s) o = true ∧ ∀ t, s < t → t < s + 1 → eqB (gd ss t) o = false :=
  ⟨e, fun t h1 h2 => absurd h1 (by omega)⟩
theorem nd_seen {ss : List ByteArray} {q : Nat} (h : seenB ss (gd ss q) q = true) : nd ss (q + 1) = nd ss q := by
  show nd ss q + (if seenB ss (gd ss q) q then 0 else 1) = _
  rw [h]; rfl
theorem nd_new {ss : List ByteArray} {q : Nat} (h : seenB ss (gd ss q) q = false) : nd ss (q + 1) = nd ss q + 1 := by
  show nd ss q + (if seenB ss (gd ss q) q then 0 else 1) = _
  rw [h]; rfl

end Go.Proofs.Ybulkcxce.Marks
