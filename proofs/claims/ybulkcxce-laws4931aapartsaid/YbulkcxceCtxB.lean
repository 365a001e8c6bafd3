import Derived.Test.YbulkcxceCtxA
import Derived.Deep.DeepCutAuto
namespace Go.Proofs.Ybulkcxce.Ctx
open Go Go.Maps Go.RowKit
set_option linter.unusedVariables false

/-- The slice vv. -/
structure VVin (w : World) (a : Option Addr) (n : Nat) (nm : Nat → ByteArray) (nn : Nat → Int) (b off : Nat) : Prop where
  at_ : 0 < n → a = some ⟨b, off, none⟩
  blk : 0 < n → b < w.heap.size
  c0 : ∀ i, i < n → w.cell? ⟨b, off + i * 2, none⟩ = some (.string (nm i))
  c1 : ∀ i, i < n → w.cell? ⟨b, off + i * 2 + 1, none⟩ = some (.int .u64 (nn i))
  sz : ∀ i, i < n → (nm i).size ≤ maxLen

/-- The slice cl, and the runs behind it. -/
structure CLin (w : World) (a : Option Addr) (n : Nat) (cm : Nat → ByteArray) (ra : Nat → Option Addr) (rc : Nat → Nat) (rs : Nat → List (Int × Int)) (b off : Nat) (rb ro : Nat → Nat) : Prop where
  at_ : 0 < n → a = some ⟨b, off, none⟩
  blk : 0 < n → b < w.heap.size
  c0 : ∀ i, i < n → w.cell? ⟨b, off + i * 2, none⟩ = some (.string (cm i))
  c1 : ∀ i, i < n → w.cell? ⟨b, off + i * 2 + 1, none⟩ = some (.slice (ra i) (rs i).length (rc i))
  sz : ∀ i, i < n → (cm i).size ≤ maxLen
  rat : ∀ i, i < n → 0 < (rs i).length → ra i = some ⟨rb i, ro i, none⟩ ∧ rb i < w.heap.size
  r0 : ∀ i, i < n → ∀ j, j < (rs i).length → w.cell? ⟨rb i, ro i + j * 2, none⟩ = some (.int .u64 (lo (rs i) j))
  r1 : ∀ i, i < n → ∀ j, j < (rs i).length → w.cell? ⟨rb i, ro i + j * 2 + 1, none⟩ = some (.int .u64 (hi (rs i) j))

section
variable {w W : World} {a : Option Addr} {n : Nat} {nm cm : Nat → ByteArray} {nn : Nat → Int} {b off : Nat} {ra : Nat → Option Addr} {rc : Nat → Nat} {rs : Nat → List (Int × Int)} {rb ro : Nat → Nat} {S : Nat → Prop}

theorem VVin.keep (h : VVin w a n nm nn b off) (k : Keep S w W) (hS : ∀ i, i < w.heap.size → ¬ S i) : VVin W a n nm nn b off :=
  ⟨h.at_, fun h0 => Nat.lt_of_lt_of_le (h.blk h0) k.size, fun i hi => (k.cell (p := ⟨b, _, none⟩) (h.blk (by omega)) (hS _ (h.blk (by omega)))).trans (h.c0 i hi), fun i hi => (k.cell (p := ⟨b, _, none⟩) (h.blk (by omega)) (hS _ (h.blk (by omega)))).trans (h.c1 i hi), h.sz⟩

theorem CLin.keep (h : CLin w a n cm ra rc rs b off rb ro) (k : Keep S w W) (hS : ∀ i, i < w.heap.size → ¬ S i) : CLin W a n cm ra rc rs b off rb ro :=
  ⟨h.at_, fun h0 => Nat.lt_of_lt_of_le (h.blk h0) k.size, fun i hi => (k.cell (p := ⟨b, _, none⟩) (h.blk (by omega)) (hS _ (h.blk (by omega)))).trans (h.c0 i hi), fun i hi => (k.cell (p := ⟨b, _, none⟩) (h.blk (by omega)) (hS _ (h.blk (by omega)))).trans (h.c1 i hi), h.sz,
    fun i hi h0 => ⟨(h.rat i hi h0).1, Nat.lt_of_lt_of_le (h.rat i hi h0).2 k.size⟩,
    fun i hi j hj => (k.cell (p := ⟨rb i, _, none⟩) (h.rat i hi (by omega)).2 (hS _ (h.rat i hi (by omega)).2)).trans (h.r0 i hi j hj),
    fun i hi j hj => (k.cell (p := ⟨rb i, _, none⟩) (h.rat i hi (by omega)).2 (hS _ (h.rat i hi (by omega)).2)).trans (h.r1 i hi j hj)⟩
end

theorem elem22 : Yba.prog.elem 22 = 34 := by kernel_rfl
theorem und22 : Yba.prog.underlying 22 = some (.slice (Yba.prog.elem 22)) := by kernel_rfl
theorem sizeOf34 (W : World) : (sizeOf 34).run Yba.prog W = .ok 2 W := by kernel_rfl
theorem elem23 : Yba.prog.elem 23 = 38 := by kernel_rfl
theorem und23 : Yba.prog.underlying 23 = some (.slice (Yba.prog.elem 23)) := by kernel_rfl
theorem sizeOf38 (W : World) : (sizeOf 38).run Yba.prog W = .ok 2 W := by kernel_rfl
theorem elem36 : Yba.prog.elem 36 = 78 := by kernel_rfl
theorem und36 : Yba.prog.underlying 36 = some (.slice (Yba.prog.elem 36)) := by kernel_rfl
theorem sizeOf78 (W : World) : (sizeOf 78).run Yba.prog W = .ok 2 W := by kernel_rfl
theorem index22 {a : Option Addr} {n b off k : Nat} (ha : 0 < n → a = some ⟨b, off, none⟩) (hk : k < n) (c : Nat) (W : World) : (Instr.indexAt 22 (.slice a n c) (.int .i64 k)).run Yba.prog W = .ok (.pointer (some ⟨b, off + k * 2, none⟩)) W :=
  index_any und22 (fun W => by rw [elem22]; exact sizeOf34 W) ha hk W
theorem index23 {a : Option Addr} {n b off k : Nat} (ha : 0 < n → a = some ⟨b, off, none⟩) (hk : k < n) (c : Nat) (W : World) : (Instr.indexAt 23 (.slice a n c) (.int .i64 k)).run Yba.prog W = .ok (.pointer (some ⟨b, off + k * 2, none⟩)) W :=
  index_any und23 (fun W => by rw [elem23]; exact sizeOf38 W) ha hk W
theorem index36 {a : Option Addr} {n b off k : Nat} (ha : 0 < n → a = some ⟨b, off, none⟩) (hk : k < n) (c : Nat) (W : World) : (Instr.indexAt 36 (.slice a n c) (.int .i64 k)).run Yba.prog W = .ok (.pointer (some ⟨b, off + k * 2, none⟩)) W :=
  index_any und36 (fun W => by rw [elem36]; exact sizeOf78 W) ha hk W

def Small (n1 n2 : Nat) (rs : Nat → List (Int × Int)) : Prop := n1 ≤ 1024 ∧ n2 ≤ 1024 ∧ ∀ i, i < n2 → (rs i).length ≤ 1024

set_option maxRecDepth 100000 in
set_option maxHeartbeats 400000 in
theorem small_yes (w : World) (a1 a2 : Option Addr) (n1 n2 c1 c2 b off : Nat) (cm : Nat → ByteArray) (ra : Nat → Option Addr) (rc : Nat → Nat) (rs : Nat → List (Int × Int)) (rb ro : Nat → Nat)
    (hC : CLin w a2 n2 cm ra rc rs b off rb ro) (hs : Small n1 n2 rs) :
    Calls Yba.prog 7 #[.slice a1 n1 c1, .slice a2 n2 c2] w fun e w' => e = .returned (.bool true) ∧ Keep (fun _ => False) w w' := by
  obtain ⟨s1, s2, s3⟩ := hs
  have hix := fun k (hk : k < n2) => index23 hC.at_ hk c2
  go_enter Yba.func7, Yba.ntmps7
  go_wp2
  go_loopw [17] (fun i wr => ∃ k : Nat, k ≤ n2 ∧ i = .int .i64 k ∧ Keep (fun _ => False) w wr) (fun i _ => n2 - (intOf i).toNat)
  case atStart => exact ⟨0, Nat.zero_le _, rfl, Keep.refl _ _⟩
  case round =>
    obtain ⟨k, hk, rfl, hK⟩ := hrel
    by_cases hlt : k < n2
    · have hi := hix k hlt
      have hC1 := hC.keep hK (fun _ _ h => h)
      have d0 := hC1.c0 k hlt
      have d1 := hC1.c1 k hlt
      have hb := hC1.blk (by omega)
      have hl := s3 k hlt
      clear hix
      go_wp2
      go_roundw
      case rel => exact ⟨k + 1, by omega, by go_num, hK.alloc _⟩
      case measure => simp [intOf]; omega
    · go_wp2
      go_ret
      exact ⟨rfl, hK⟩

theorem first_big (f : Nat → Nat) : ∀ n, (∀ i, i < n → f i ≤ 1024) ∨ ∃ x, x < n ∧ 1024 < f x ∧ ∀ i, i < x → f i ≤ 1024
  | 0 => Or.inl (fun i h => absurd h (by omega))
  | n + 1 => by
    rcases first_big f n with h | ⟨x, h1, h2, h3⟩
    · by_cases e : f n ≤ 1024
      · refine Or.inl (fun i hi => ?_)
        by_cases e2 : i = n
        · rw [e2]; exact e
        · exact h i (by omega)
      · exact Or.inr ⟨n, by omega, by omega, h⟩
    · exact Or.inr ⟨x, by omega, h2, h3⟩

set_option maxRecDepth 100000 in
set_option maxHeartbeats 400000 in
theorem small_no (w : World) (a1 a2 : Option Addr) (n1 n2 c1 c2 b off : Nat) (cm : Nat → ByteArray) (ra : Nat → Option Addr) (rc : Nat → Nat) (rs : Nat → List (Int × Int)) (rb ro : Nat → Nat)
    (hC : CLin w a2 n2 cm ra rc rs b off rb ro) (hs : ¬ Small n1 n2 rs) :
    Calls Yba.prog 7 #[.slice a1 n1 c1, .slice a2 n2 c2] w fun e w' => e = .returned (.bool false) ∧ Keep (fun _ => False) w w' := by
  by_cases s1 : n1 ≤ 1024
  · by_cases s2 : n2 ≤ 1024
    · rcases first_big (fun i => (rs i).length) n2 with h | ⟨x, hx, hbig, hsm⟩
      · exact absurd ⟨s1, s2, h⟩ hs
      · clear hs
        have hix := fun k (hk : k < n2) => index23 hC.at_ hk c2
        have hbig' : 1024 < (rs x).length := hbig
        have hsm' : ∀ i, i < x → (rs i).length ≤ 1024 := hsm
        clear hbig hsm
        go_enter Yba.func7, Yba.ntmps7
        go_wp2
        go_loopw [17] (fun i wr => ∃ k : Nat, k ≤ x ∧ i = .int .i64 k ∧ Keep (fun _ => False) w wr) (fun i _ => n2 - (intOf i).toNat)
        case atStart => exact ⟨0, Nat.zero_le _, rfl, Keep.refl _ _⟩
        case round =>
          obtain ⟨k, hk, rfl, hK⟩ := hrel
          have hlt : k < n2 := by omega
          have hi := hix k hlt
          have hC1 := hC.keep hK (fun _ _ h => h)
          have d0 := hC1.c0 k hlt
          have d1 := hC1.c1 k hlt
          have hb := hC1.blk (by omega)
          clear hix
          by_cases hkx : k < x
          · have hl := hsm' k hkx
            clear hsm'
            go_wp2
            go_roundw
            case rel => exact ⟨k + 1, by omega, by go_num, hK.alloc _⟩
            case measure => simp [intOf]; omega
          · obtain rfl : x = k := by omega
            have hl : (1024 : Int) < ((rs x).length : Int) := by omega
            clear hsm'
            go_wp2
            go_ret
            exact ⟨rfl, hK.alloc _⟩
    · have h2 : (1024 : Int) < (n2 : Int) := by omega
      go_enter Yba.func7, Yba.ntmps7
      go_wp2
      go_ret
      exact ⟨rfl, Keep.refl _ _⟩
  · have h2 : (1024 : Int) < (n1 : Int) := by omega
    go_enter Yba.func7, Yba.ntmps7
    go_wp2
    go_ret
    exact ⟨rfl, Keep.refl _ _⟩

end Go.Proofs.Ybulkcxce.Ctx
