import Derived.Test.YbulkcxduDoorKeep
import Derived.WalkSpells
import Derived.WalkLawsBesides
import Derived.Outline
import Derived.Deep.DeepCutAuto
namespace Go.Proofs.YbulkcxduDoor
open Go Go.RowKit
set_option linter.unusedVariables false

/-- Decimal digits behind n, at most 4294967295. -/
def num (n : Int) : List Int → Option Int
  | [] => some n
  | c :: r => if 48 ≤ c ∧ c ≤ 57 ∧ n * 10 + (c - 48) ≤ 4294967295 then num (n * 10 + (c - 48)) r else none
def val (zs : List Int) : Int := (num 0 zs).getD 0
def okay (zs : List Int) : Bool := !zs.isEmpty && (num 0 zs).isSome

theorem num_bad {n c : Int} {r : List Int} (h : ¬ (48 ≤ c ∧ c ≤ 57 ∧ n * 10 + (c - 48) ≤ 4294967295)) : num n (c :: r) = none := by simp only [num, if_neg h]
theorem num_good {n c : Int} {r : List Int} (h : 48 ≤ c ∧ c ≤ 57 ∧ n * 10 + (c - 48) ≤ 4294967295) : num n (c :: r) = num (n * 10 + (c - 48)) r := by simp only [num, if_pos h]
theorem val_of_none {zs : List Int} (h : num 0 zs = none) : val zs = 0 ∧ okay zs = false := by simp [val, okay, h]
theorem val_of_some {zs : List Int} {n : Int} (h : num 0 zs = some n) (h0 : 0 < zs.length) : val zs = n ∧ okay zs = true := by
  cases zs with
  | nil => simp at h0
  | cons z r => simp [val, okay, h]
theorem val_nil : val [] = 0 ∧ okay [] = false := ⟨rfl, rfl⟩
theorem num_range : ∀ (zs : List Int) (n m : Int), 0 ≤ n → n ≤ 4294967295 → num n zs = some m → 0 ≤ m ∧ m ≤ 4294967295
  | [], n, m, h0, h1, h => by simp [num] at h; omega
  | c :: r, n, m, h0, h1, h => by
    by_cases hc : 48 ≤ c ∧ c ≤ 57 ∧ n * 10 + (c - 48) ≤ 4294967295
    · rw [num_good hc] at h
      exact num_range r _ m (by omega) hc.2.2 h
    · rw [num_bad hc] at h
      cases h

/-- A slice of bytes in memory. -/
structure By (w : World) (a : Option Addr) (zs : List Int) (b off : Nat) : Prop where
  at_ : 0 < zs.length → a = some ⟨b, off, none⟩
  blk : 0 < zs.length → b < w.heap.size
  cell : ∀ (i : Nat) z, zs[i]? = some z → w.cell? ⟨b, off + i, none⟩ = some (.int .u8 z)
  rng : ∀ z ∈ zs, 0 ≤ z ∧ z ≤ 255

theorem By.keep {w w' : World} {a : Option Addr} {zs : List Int} {b off : Nat} (h : By w a zs b off) (k : Keep (fun _ => False) w w') : By w' a zs b off :=
  ⟨h.at_, fun h0 => Nat.lt_of_lt_of_le (h.blk h0) k.size, fun i z hz => (k.cell (p := ⟨b, off + i, none⟩) (h.blk (by have := (List.getElem?_eq_some_iff.1 hz).1; omega)) (fun e => e)).trans (h.cell i z hz), h.rng⟩

theorem elem22 : Ybad.prog.elem 22 = 5 := by kernel_rfl
theorem und22 : Ybad.prog.underlying 22 = some (.slice (Ybad.prog.elem 22)) := by kernel_rfl
theorem sizeOf5 (W : World) : (sizeOf 5).run Ybad.prog W = .ok 1 W := by kernel_rfl
theorem addr_add (g off i : Nat) : (⟨g, off, none⟩ : Addr).add i = ⟨g, off + i, none⟩ := by
  unfold Addr.add
  split <;> simp_all
theorem index22 {a : Option Addr} {n b off k : Nat} (ha : 0 < n → a = some ⟨b, off, none⟩) (hk : k < n) (c : Nat) (W : World) : (Instr.indexAt 22 (.slice a n c) (.int .i64 k)).run Ybad.prog W = .ok (.pointer (some ⟨b, off + k, none⟩)) W := by
  rw [ha (by omega), run_indexAt_slice (h := und22), if_pos (by omega), elem22, sizeOf5]
  simp only [Result.andThen, Int.toNat_natCast, addr_add, Nat.mul_one]

theorem drop_step {zs : List Int} {k : Nat} (h : k < zs.length) : zs.drop k = zs[k] :: zs.drop (k + 1) := List.drop_eq_getElem_cons h

set_option maxRecDepth 100000 in
set_option maxHeartbeats 400000 in
theorem parseUint (w : World) (a : Option Addr) (zs : List Int) (c b off : Nat) (hB : By w a zs b off) (hn : zs.length ≤ 1024) :
    Calls Ybad.prog 17 #[.slice a zs.length c, .int .u64 10, .int .u64 4294967295] w fun e w' => e = .returned (.tuple #[.int .u64 (val zs), .bool (okay zs)]) ∧ w' = w := by
  go_enter Ybad.func17, Ybad.ntmps17
  go_wp2
  go_loopw [8, 14] (fun v i wr => ∃ (k : Nat) (n : Int), k ≤ zs.length ∧ i = .int .i64 k ∧ v = .int .u64 n ∧ 0 ≤ n ∧ n ≤ 4294967295 ∧ num 0 zs = num n (zs.drop k) ∧ w = wr) (fun _ i _ => zs.length - (intOf i).toNat)
  case atStart => exact ⟨0, 0, Nat.zero_le _, rfl, rfl, Int.le_refl _, by omega, by simp, rfl⟩
  case round =>
    obtain ⟨k, n, hk, rfl, rfl, h0, h1, hnum, rfl⟩ := hrel
    by_cases hlt : k < zs.length
    · have hix := index22 hB.at_ hlt c
      have hc := hB.cell k _ (List.getElem?_eq_getElem hlt)
      obtain ⟨r0, r1⟩ := hB.rng _ (List.getElem_mem hlt)
      rw [drop_step hlt] at hnum
      generalize zs[k] = z at *
      by_cases hz : 48 ≤ z ∧ z ≤ 57 ∧ n * 10 + (z - 48) ≤ 4294967295
      · rw [num_good hz] at hnum
        obtain ⟨z0, z1, z2⟩ := hz
        have hq : n ≤ (4294967295 - (z - 48)) / 10 := by omega
        go_wp2
        go_roundw
        case rel => exact ⟨k + 1, _, by omega, by go_num, rfl, by omega, z2, hnum, trivial⟩
        case measure => simp [intOf]; omega
      · rw [num_bad hz] at hnum
        obtain ⟨e1, e2⟩ := val_of_none hnum
        by_cases z0 : z < 48
        · go_wp2
          go_ret2
          exact ⟨by first | (rw [e1, e2]; rfl) | rfl, rfl⟩
        · have z0' : 48 ≤ z := by omega
          by_cases z1 : 57 < z
          · have z1' : 10 ≤ z - 48 := by omega
            go_wp2
            go_ret2
            exact ⟨by first | (rw [e1, e2]; rfl) | rfl, rfl⟩
          · have z1' : z - 48 < 10 := by omega
            have hq : (4294967295 - (z - 48)) / 10 < n := by omega
            go_wp2
            go_ret2
            exact ⟨by first | (rw [e1, e2]; rfl) | rfl, rfl⟩
    · obtain rfl : k = zs.length := by omega
      rw [List.drop_length] at hnum
      by_cases hz : 0 < zs.length
      · obtain ⟨e1, e2⟩ := val_of_some hnum hz
        go_wp2
        go_ret2
        exact ⟨by first | (rw [e1, e2]; rfl) | rfl, rfl⟩
      · have hz0 : zs = [] := List.length_eq_zero_iff.1 (by omega)
        subst hz0
        go_wp2
        go_ret2
        simp [num] at hnum
        subst hnum
        exact ⟨rfl, rfl⟩

set_option maxRecDepth 100000 in
set_option maxHeartbeats 400000 in
theorem model (w : World) (a : Option Addr) (zs : List Int) (c b off : Nat) (hB : By w a zs b off) (hn : zs.length ≤ 1024) :
    Calls Ybad.prog 12 #[.slice a zs.length c] w fun e w' => e = .returned (.tuple #[.int .u32 (val zs), .bool (okay zs)]) ∧ w' = w := by
  by_cases hz : 0 < zs.length
  · have hz' : ((zs.length : Int) == 0) = false := beq_eq_false_iff_ne.2 (by omega)
    go_enter Ybad.func12, Ybad.ntmps12
    go_wp2
    go_loopw [4, 5] (fun v i wr => ∃ (k : Nat) (n : Int), k ≤ zs.length ∧ i = .int .i64 k ∧ v = .int .u64 n ∧ 0 ≤ n ∧ n ≤ 4294967295 ∧ num 0 zs = num n (zs.drop k) ∧ w = wr) (fun _ i _ => zs.length - (intOf i).toNat)
    case atStart => exact ⟨0, 0, Nat.zero_le _, rfl, rfl, Int.le_refl _, by omega, by simp, rfl⟩
    case round =>
      obtain ⟨k, n, hk, rfl, rfl, h0, h1, hnum, rfl⟩ := hrel
      by_cases hlt : k < zs.length
      · have hix := index22 hB.at_ hlt c
        have hc := hB.cell k _ (List.getElem?_eq_getElem hlt)
        obtain ⟨r0, r1⟩ := hB.rng _ (List.getElem_mem hlt)
        rw [drop_step hlt] at hnum
        generalize zs[k] = z at *
        by_cases hz : 48 ≤ z ∧ z ≤ 57 ∧ n * 10 + (z - 48) ≤ 4294967295
        · rw [num_good hz] at hnum
          obtain ⟨z0, z1, z2⟩ := hz
          go_wp2
          go_roundw
          case rel => exact ⟨k + 1, _, by omega, by go_num, rfl, by omega, z2, hnum, trivial⟩
          case measure => simp [intOf]; omega
        · rw [num_bad hz] at hnum
          obtain ⟨e1, e2⟩ := val_of_none hnum
          by_cases z0 : z < 48
          · go_wp2
            go_ret2
            exact ⟨by first | (rw [e1, e2]; rfl) | rfl, rfl⟩
          · have z0' : 48 ≤ z := by omega
            by_cases z1 : 57 < z
            · go_wp2
              go_ret2
              exact ⟨by first | (rw [e1, e2]; rfl) | rfl, rfl⟩
            · have z1' : z ≤ 57 := by omega
              have hq : 4294967295 < n * 10 + (z - 48) := by omega
              go_wp2
              go_ret2
              exact ⟨by first | (rw [e1, e2]; rfl) | rfl, rfl⟩
      · obtain rfl : k = zs.length := by omega
        rw [List.drop_length] at hnum
        obtain ⟨e1, e2⟩ := val_of_some hnum hz
        go_wp2
        go_ret2
        exact ⟨by first | (rw [e1, e2]; rfl) | rfl, rfl⟩
  · have hz0 : zs = [] := List.length_eq_zero_iff.1 (by omega)
    subst hz0
    go_enter Ybad.func12, Ybad.ntmps12
    go_wp2
    go_ret2
    exact ⟨rfl, rfl⟩

end Go.Proofs.YbulkcxduDoor
