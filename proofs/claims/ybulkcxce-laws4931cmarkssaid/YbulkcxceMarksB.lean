import Derived.Test.YbulkcxceMarksP
import Derived.Deep.DeepCutAuto
import Derived.BigQuiet
import Derived.RegionTactic
import Derived.BigRegion
import Derived.DeepKeys4
namespace Go.Proofs.Ybulkcxce.Marks
open Go Go.Maps Go.RowKit
set_option linter.unusedVariables false

/-- The slice's place: where it has an element, it begins at ⟨b, off⟩. -/
structure Sl (w : World) (a1 : Option Addr) (len1 : Nat) (ss : List ByteArray) (b off : Nat) : Prop where
  at_ : 0 < len1 → a1 = some ⟨b, off, none⟩
  blk : 0 < len1 → b < w.heap.size
  cell : ∀ i, i < len1 → w.cell? ⟨b, off + i, none⟩ = some (.string (gd ss i))
  len : ∀ i, i < len1 → (gd ss i).size ≤ maxLen

theorem elem59 : Yba.prog.elem 59 = 9 := by kernel_rfl
theorem und59 : Yba.prog.underlying 59 = some (.slice (Yba.prog.elem 59)) := by kernel_rfl

theorem Sl.index {w : World} {a1 : Option Addr} {len1 : Nat} {ss : List ByteArray} {b off : Nat} (h : Sl w a1 len1 ss b off) {k : Nat} (hk : k < len1) (cap1 : Nat) (W : World) :
    (Instr.indexAt 59 (.slice a1 len1 cap1) (.int .i64 k)).run Yba.prog W = .ok (.pointer (some ⟨b, off + k, none⟩)) W := by
  rw [h.at_ (by omega), run_indexAt_slice (h := und59), if_pos (by omega)]
  simp only [elem59]
  have : Addr.add ⟨b, off, none⟩ k = ⟨b, off + k, none⟩ := by
    unfold Addr.add
    split <;> simp_all
  simp [this]

theorem Sl.cellAt {w wr : World} {a1 : Option Addr} {len1 : Nat} {ss : List ByteArray} {b off : Nat} (h : Sl w a1 len1 ss b off) (hb : Below w.heap.size w wr) {k : Nat} (hk : k < len1) :
    wr.cell? ⟨b, off + k, none⟩ = some (.string (gd ss k)) :=
  (hb.cell (p := ⟨b, off + k, none⟩) (h.blk (by omega))).trans (h.cell k hk)

theorem law70 : Keyed Yba.prog 70 := Keyed.of_law (deep_law_laid (by kernel_rfl : laidOutB Yba.prog = true) (m := 2) (by omega) (of_decide_eq_true (by kernel_rfl)) (by kernel_rfl) (by kernel_rfl))
theorem key_pd_12 : ∃ l, keyOf Yba.prog 70 (.agg #[.int .u32 1, .int .u64 2]) = some l := Option.isSome_iff_exists.1 (by kernel_rfl)
theorem key_pd_34 : ∃ l, keyOf Yba.prog 70 (.agg #[.int .u32 3, .int .u64 4]) = some l := Option.isSome_iff_exists.1 (by kernel_rfl)
theorem key_pd_99 : ∃ l, keyOf Yba.prog 70 (.agg #[.int .u32 9, .int .u64 9]) = some l := Option.isSome_iff_exists.1 (by kernel_rfl)

def DV0 (B : Nat) (hk : Bool) (kk : ByteArray) : DataW Value := if hk then (DataW.map []).put (kS kk) (.held (.map (some (B + 4)))) else .map []

theorem DV0_no {B : Nat} {hk : Bool} {kk : ByteArray} (e : hk = false) : DataW.map [] = DV0 B hk kk := by subst e; rfl
theorem DV0_yes {B : Nat} {hk : Bool} {kk : ByteArray} (e : hk = true) : (DataW.map []).put (kS kk) (.held (.map (some (B + 4)))) = DV0 B hk kk := by subst e; rfl

/-- The state behind 'if pre { .. }'. -/
def PR (w : World) (n1 : Nat) (DU : DataW Value) (h kk : ByteArray) (k12 : Lit) (pre hk : Bool) (wx : World) : Prop :=
  Mp wx 9 (w.heap.size + 1) n1 DU ∧ Below w.heap.size w wx ∧
  ((pre = false ∧ hk = false ∧ Sto wx w.heap.size (.map none) ∧ wx.heap.size = w.heap.size + 3) ∨
   (pre = true ∧ Sto wx w.heap.size (.map (some (w.heap.size + 3))) ∧ w.heap.size + 5 ≤ wx.heap.size ∧ ∃ x, Mp wx 9 (w.heap.size + 3) 2 ((DV0 w.heap.size hk kk).put (kS h) (.held x)) ∧ (hk = true → Mp wx 70 (w.heap.size + 4) 1 ((DataW.map []).put k12 (.held (.agg #[]))))))

/-- What 'several' holds behind the call. -/
structure Sev (D : DataW Value) (B bd : Nat) (hk : Bool) (h kk : ByteArray) : Prop where
  size : size D = if hk then 2 else 1
  look : look D (kS h) (.map none) = .map (some bd)
  has : has D (kS h) = true
  keep : hk = true → Ybulkcxce.look D (kS kk) (.map none) = .map (some (B + 4))

theorem Sev_nil (B bd : Nat) (h kk : ByteArray) {hk : Bool} (e : hk = false) : Sev ((DataW.map []).put (kS h) (.held (.map (some bd)))) B bd hk h kk := by
  subst e
  refine ⟨?_, look_put_same isMap0 (isKey h) _ _, has_put_same isMap0 (isKey h) _, fun e => by cases e⟩
  rw [size_put tidy0, has_empty, size_empty]
  rfl

theorem Sev_some (B bd : Nat) (h kk : ByteArray) (hk : Bool) (x : Value) (hne : hk = true → kS kk ≠ kS h) : Sev (((DV0 B hk kk).put (kS h) (.held x)).put (kS h) (.held (.map (some bd)))) B bd hk h kk := by
  have hm : IsMap (DV0 B hk kk) := by unfold DV0; split; exact isMap0.put _ _; exact isMap0
  have ht : Tidy (DV0 B hk kk) := by unfold DV0; split; exact tidy0.put (isKey _) _; exact tidy0
  refine ⟨?_, look_put_same (hm.put _ _) (isKey h) _ _, has_put_same (hm.put _ _) (isKey h) _, fun e => ?_⟩
  · rw [size_put (ht.put (isKey h) _), has_put_same hm (isKey h), if_pos rfl, size_put ht]
    cases hk
    · rfl
    · simp only [DV0, if_true]
      rw [has_put_other (hne rfl).symm, has_empty, size_put tidy0, has_empty, size_empty]
      rfl
  · subst e
    rw [look_put_other (hne rfl), look_put_other (hne rfl)]
    exact look_put_same isMap0 (isKey kk) _ _

theorem zero70 (w : World) : (zeroValue 70).run Yba.prog w = .ok (pd 0 0) w := by kernel_rfl
theorem zero71 (w : World) : (zeroValue 71).run Yba.prog w = .ok (.agg #[]) w := by kernel_rfl
theorem zero72 (w : World) : (zeroValue 72).run Yba.prog w = .ok (.map none) w := by kernel_rfl
theorem size_one (kl : Lit) (v : Value) : size ((DataW.map [] : DataW Value).put kl (.held v)) = 1 := by
  rw [size_put tidy0, has_empty, size_empty]; rfl
theorem look_one {kl : Lit} (hk : WideAt.IsKeyLit kl) (v z : Value) : look ((DataW.map [] : DataW Value).put kl (.held v)) kl z = v := look_put_same isMap0 hk v z
theorem has_one {kl : Lit} (hk : WideAt.IsKeyLit kl) (v : Value) : has ((DataW.map [] : DataW Value).put kl (.held v)) kl = true := has_put_same isMap0 hk _

theorem start1 {w X : World} {len1 : Nat} {ss : List ByteArray} (hX : X = ((w.alloc (.cells #[.string ⟨#[97]⟩] 9)).alloc (.map #[] 0)).alloc (.cells #[.slice (some ⟨w.heap.size, 0, none⟩) 1 1, .map none, .map none, .map (some (w.heap.size + 1)), .map none, .int .i64 7] 67)) :
    ∃ k : Nat, k ≤ len1 ∧ Value.int .i64 0 = .int .i64 k ∧ Mp X 9 (w.heap.size + 1) k (Du ss k) ∧ Sto X w.heap.size (.map none) ∧ Below w.heap.size w X ∧ X.heap.size = w.heap.size + 3 := by
  subst hX
  refine ⟨0, Nat.zero_le _, rfl, ?_, ⟨?_, ?_⟩, (((Below.refl _ _).alloc (Nat.le_refl _) _).alloc (by simp) _).alloc (by simp; omega) _, by simp⟩
  · have := (Mp_made (w.alloc (.cells #[.string ⟨#[97]⟩] 9)) 9).alloc (.cells #[.slice (some ⟨w.heap.size, 0, none⟩) 1 1, .map none, .map none, .map (some (w.heap.size + 1)), .map none, .int .i64 7] 67)
    rw [show (w.alloc (.cells #[.string ⟨#[97]⟩] 9)).heap.size = w.heap.size + 1 by simp] at this
    exact this
  · rw [old_alloc _ _ (by simp; omega), old_alloc _ _ (by simp), at_alloc]
  · have := at_alloc ((w.alloc (.cells #[.string ⟨#[97]⟩] 9)).alloc (.map #[] 0)) (.cells #[.slice (some ⟨w.heap.size, 0, none⟩) 1 1, .map none, .map none, .map (some (w.heap.size + 1)), .map none, .int .i64 7] 67)
    rw [show ((w.alloc (.cells #[.string ⟨#[97]⟩] 9)).alloc (.map #[] 0)).heap.size = w.heap.size + 2 by simp] at this
    exact this

theorem rel13 {w wc : World} {n1 : Nat} {DU : DataW Value} (hM : Mp wc 9 (w.heap.size + 1) n1 DU) (hS : Sto wc w.heap.size (.map none)) (hbel : Below w.heap.size w wc) (hsz : wc.heap.size = w.heap.size + 3)
    {X : World} (hX : X = (wc.setCell ⟨w.heap.size + 1 + 1, 4, none⟩ (.map (some (w.heap.size + 3)))).alloc (.map #[] 0)) :
    Mp X 9 (w.heap.size + 1) n1 DU ∧ Mp X 9 (w.heap.size + 3) 0 (.map []) ∧ Sto X w.heap.size (.map (some (w.heap.size + 3))) ∧ Below w.heap.size w X ∧ X.heap.size = w.heap.size + 4 := by
  have kX : Keep (fun i => i = w.heap.size + 2) wc X := by
    subst hX
    exact ((Keep.refl (fun i => i = w.heap.size + 2) _).setCell (p := ⟨w.heap.size + 2, 4, none⟩) (fun _ => rfl) _).alloc _
  refine ⟨Mp.keep hM kX (by omega), ?_, ⟨(kX.block _ (by omega) (by omega)).trans hS.nm, ?_⟩, below_kept hbel kX (fun i h => by omega) (by omega), ?_⟩
  · have := Mp_made (wc.setCell ⟨w.heap.size + 1 + 1, 4, none⟩ (.map (some (w.heap.size + 3)))) 9
    rw [show (wc.setCell ⟨w.heap.size + 1 + 1, 4, none⟩ (.map (some (w.heap.size + 3)))).heap.size = w.heap.size + 3 by simp [hsz]] at this
    subst hX
    exact this
  · subst hX
    rw [old_alloc _ _ (by simp; omega), block_setCell hS.st]
    rfl
  · subst hX
    simp [hsz]

theorem draw17 (W : World) (B nU nV : Nat) (DU DV : DataW Value) (key : ByteArray) (hkey : key.size ≤ maxLen) (p n : Int) (kp : Lit) (hkp : keyOf Yba.prog 70 (.agg #[.int .u32 p, .int .u64 n]) = some kp) (z : Nat) (hz : W.heap.size = z)
    (hS : Sto W B (.map (some (B + 3)))) (hU : Mp W 9 (B + 1) nU DU) (hV : Mp W 9 (B + 3) nV DV) (hn : nV ≤ 2000) :
    ∃ X1 X2, (Instr.mapUpdate 72 (.map (some z)) (.agg #[.int .u32 p, .int .u64 n]) (.agg #[])).run Yba.prog (W.alloc (.map #[] 0)).drew = .ok () X1 ∧
      X1.cell? ⟨B + 2, 4, none⟩ = some (.map (some (B + 3))) ∧
      (Instr.mapUpdate 65 (.map (some (B + 3))) (.string key) (.map (some z))).run Yba.prog X1 = .ok () X2 ∧
      Mp X2 9 (B + 1) nU DU ∧ Mp X2 9 (B + 3) (nV + 1) (DV.put (kS key) (.held (.map (some z)))) ∧ Mp X2 70 z 1 ((DataW.map []).put kp (.held (.agg #[]))) ∧ Sto X2 B (.map (some (B + 3))) ∧ Keep (fun i => i = B + 3) W X2 ∧ X2.heap.size = z + 1 := by
  subst hz
  obtain ⟨X1, e1, m1, g1, z1⟩ := run_put ((Mp_made W 70).drew) law70 Yba.underlying72 (by unfold maxLen; omega) (.agg #[]) hkp
  have hlV := hV.lt
  have hlU := hU.lt
  have hlS := hS.lt
  have k1 : Keep (fun i => i = B + 3) W X1 := ((Keep.refl _ W).alloc (.map #[] 0)).drew.grown g1 (fun j hj hlt => by simp at hj; omega)
  have s1 := hS.kept k1 (by omega) (by omega)
  have hV1 : Mp X1 9 (B + 3) nV DV := ((hV.alloc (.map #[] 0)).drew).kept g1 (by simp; omega)
  obtain ⟨X2, e2, m2, g2, z2⟩ := run_put hV1 lawS Yba.underlying65 (by unfold maxLen; omega) (.map (some W.heap.size)) (keyS hkey)
  have k2 : Keep (fun i => i = B + 3) W X2 := k1.grown g2 (fun j hj _ => by simpa using hj.symm)
  have c4 := s1.c 4
  simp [sto] at c4
  refine ⟨X1, X2, e1, c4, e2, Mp.keep hU k2 (by omega), m2, m1.kept g2 (by simp; omega), hS.kept k2 (by omega) (by omega), k2, ?_⟩
  rw [z2, z1]
  simp

theorem hkA {hk pre : Bool} {k : Nat} {s h : ByteArray} (e : hk = (pre && decide (0 < k) && !(s == h))) (hp : pre = true) (h0 : 0 < k) : (!s.toList == h.toList) = hk := by
  rw [e, hp]; simp [h0, beq_toListBytes]
theorem hkB {hk pre : Bool} {k : Nat} {s h : ByteArray} (e : hk = (pre && decide (0 < k) && !(s == h))) (hp : ¬ pre = true) : false = hk := by
  rw [e]; simp [hp]
theorem hkF {hk pre : Bool} {k : Nat} {s h : ByteArray} (e : hk = (pre && decide (0 < k) && !(s == h))) (hp : pre = false) : hk = false := by
  rw [e]; simp [hp]
theorem hkC {hk pre : Bool} {k : Nat} {s h : ByteArray} (e : hk = (pre && decide (0 < k) && !(s == h))) (h0 : ¬ 0 < k) : false = hk := by
  rw [e]; simp [h0]

theorem hkT {hk pre : Bool} {k : Nat} {s h : ByteArray} (e : hk = (pre && decide (0 < k) && !(s == h))) (hp : hk = true) : 0 < k ∧ kS s ≠ kS h := by
  rw [hp] at e
  simp at e
  refine ⟨e.1.2, fun h' => ?_⟩
  have e2 := e.2
  unfold kS at h'
  simp at h'
  rw [beq_toListBytes, ByteArray.toList_eq, ByteArray.toList_eq, h'] at e2
  simp at e2

set_option maxRecDepth 100000 in
set_option maxHeartbeats 1000000 in
theorem walkB (h : ByteArray) (a1 : Option Addr) (len1 cap1 : Nat) (ss : List ByteArray) (b off : Nat) (nu : Int) (pre : Bool) (w : World) (hh : h.size ≤ maxLen) 
   (w2 : (Lit.int .u64 nu).wf = true) (hlen : len1 ≤ 1024) (hsl : Sl w a1 len1 ss b off) :
    Calls Yba.prog 6 #[.string h, .slice a1 len1 cap1, .int .u64 nu, .bool pre] w fun e w' => e = .returned (.bool true) ∧ Below w.heap.size w w' := by
  have hmm := @run_makeMap Yba.prog
  obtain ⟨k12, hk12⟩ := key_pd_12
  obtain ⟨k34, hk34⟩ := key_pd_34
  obtain ⟨k99, hk99⟩ := key_pd_99
  go_enter Yba.func6, Yba.ntmps6
  go_wp2
  go_loopw [45] (fun i wr => ∃ k : Nat, k ≤ len1 ∧ i = .int .i64 k ∧ Mp wr 9 (w.heap.size + 1) k (Du ss k) ∧ Sto wr w.heap.size (.map none) ∧ Below w.heap.size w wr ∧ wr.heap.size = w.heap.size + 3) (fun i _ => len1 - (intOf i).toNat)
  case atStart => exact start1 rfl
  case round =>
    obtain ⟨k, hk, rfl, hM, hS, hbel, hsz⟩ := hrel
    have c3 := hS.c 3
    simp [sto] at c3
    by_cases hlt : k < len1
    · have hix := hsl.index hlt cap1
      have hcx := hsl.cellAt hbel hlt
      have hkey := keyS (hsl.len k hlt)
      go_wp2_with (at_mapUpdate; refine wpList_put _ rfl _ _ _ 62 rfl 9 70 lawS Yba.underlying62 _ _ _ rfl hM (by unfold maxLen; omega) _ _ _ rfl rfl hkey ?_)
      intro w1 hM1 hg1 hz1
      have k1 : Keep (fun i => i = w.heap.size + 1) wr w1 := (Keep.refl _ _).grown hg1 (fun j hj _ => by simpa using hj.symm)
      have hS1 := hS.kept k1 (by omega) (by omega)
      have hb1 := below_kept hbel k1 (fun i h => by omega) (by omega)
      clear hM hS hbel hg1 k1 c3
      go_wp2
      go_roundw
      case rel => exact ⟨k + 1, by omega, by go_num, hM1, hS1, hb1, hz1⟩
      case measure => simp [intOf]; omega
    · obtain rfl : k = len1 := by omega
      obtain ⟨hk, hkd⟩ : ∃ hk : Bool, Hid (hk = (pre && decide (0 < k) && !(gd ss 0 == h))) := ⟨_, rfl⟩
      go_upto_region 11 with fail
      go_cut [3, 14] from 62 to 74 (fun s3 s14 wx => s3 = .bool pre ∧ s14 = .bool hk ∧ wx = wr)
      case first =>
        by_cases h0 : 0 < k
        · have hix : ∀ W, (Instr.indexAt 59 (.slice a1 k cap1) (.int .i64 0)).run Yba.prog W = .ok (.pointer (some ⟨b, off, none⟩)) W := fun W => by simpa using hsl.index h0 cap1 W
          have hcx : wr.cell? ⟨b, off, none⟩ = some (.string (gd ss 0)) := by simpa using hsl.cellAt hbel h0
          generalize gd ss 0 = s0 at hcx hkd
          go_wp2
          · have hp : pre = true := by assumption
            go_meet
            case rel => exact ⟨(congrArg Value.bool hp).symm, congrArg Value.bool (hkA hkd.out hp h0), rfl⟩
          · have hp : ¬ pre = true := by assumption
            go_meet
            case rel => exact ⟨(congrArg Value.bool (Bool.eq_false_iff.2 hp)).symm, congrArg Value.bool (hkB hkd.out hp), rfl⟩
        · go_wp2
          · have hp : pre = true := by assumption
            go_meet
            case rel => exact ⟨(congrArg Value.bool hp).symm, congrArg Value.bool (hkC hkd.out h0), rfl⟩
          · have hp : ¬ pre = true := by assumption
            go_meet
            case rel => exact ⟨(congrArg Value.bool (Bool.eq_false_iff.2 hp)).symm, congrArg Value.bool (hkB hkd.out hp), rfl⟩
      case rest =>
        obtain ⟨rfl, rfl, rfl⟩ := hcut
        go_upto_if 75 with fail
        go_cut [3, 13, 14] from 62 to 101 (fun s3 s13 s14 wx => ∃ kk : ByteArray, s3 = .bool pre ∧ s14 = .bool hk ∧ s13 = .string kk ∧ kk.size ≤ maxLen ∧ (hk = true → kS kk ≠ kS h) ∧ PR w k (Du ss k) h kk k12 pre hk wx)
        case first =>
          have c4 := hS.c 4
          have f4 := hS.free 4
          simp [sto] at c4
          cases hpre : pre
          · go_wp2
            go_meet
            case rel => exact ⟨⟨#[]⟩, congrArg Value.bool hpre.symm, rfl, rfl, Nat.zero_le _, fun e => Bool.noConfusion ((hkF hkd.out hpre).symm.trans e), hM, hbel, Or.inl ⟨hpre, hkF hkd.out hpre, hS, hsz⟩⟩
          · go_upto_region 13 with fail
            go_cut [] from 76 to 79 (fun wx => Mp wx 9 (w.heap.size + 1) k (Du ss k) ∧ Mp wx 9 (w.heap.size + 3) 0 (.map []) ∧ Sto wx w.heap.size (.map (some (w.heap.size + 3))) ∧ Below w.heap.size w wx ∧ wx.heap.size = w.heap.size + 4)
            case first =>
              go_wp2
              go_meet
              case rel => exact rel13 hM hS hbel hsz rfl
            case rest =>
              obtain ⟨hM1, hV1, hS1, hbel1, hsz1⟩ := hcut
              clear c3 c4 f4 hM hS hbel hsz
              have c4 := hS1.c 4
              simp [sto] at c4
              go_upto_if 80 with fail
              go_cut [13, 14] from 80 to 92 (fun s13 s14 wx => ∃ (kk : ByteArray) (z : Nat), s14 = .bool hk ∧ s13 = .string kk ∧ kk.size ≤ maxLen ∧ (hk = true → kS kk ≠ kS h) ∧ Mp wx 9 (w.heap.size + 1) k (Du ss k) ∧ Mp wx 9 (w.heap.size + 3) 1 (DV0 w.heap.size hk kk) ∧ Sto wx w.heap.size (.map (some (w.heap.size + 3))) ∧ Below w.heap.size w wx ∧ wx.heap.size = z ∧ (hk = true → Mp wx 70 (w.heap.size + 4) 1 ((DataW.map []).put k12 (.held (.agg #[])))) ∧ w.heap.size + 4 ≤ z)
              case first =>
                cases hkc : hk
                · go_wp2
                  go_meet
                  case rel => exact ⟨⟨#[]⟩, w.heap.size + 4, congrArg Value.bool hkc.symm, rfl, Nat.zero_le _, fun e => Bool.noConfusion (hkc.symm.trans e), hM1, (DV0_no hkc) ▸ hV1.mono (by omega), hS1, hbel1, hsz1, fun e => Bool.noConfusion (hkc.symm.trans e), Nat.le_refl _⟩
                · obtain ⟨h0, hne⟩ := hkT hkd.out hkc
                  have hix : ∀ W, (Instr.indexAt 59 (.slice a1 k cap1) (.int .i64 0)).run Yba.prog W = .ok (.pointer (some ⟨b, off, none⟩)) W := fun W => by simpa using hsl.index h0 cap1 W
                  have hcx : wc.cell? ⟨b, off, none⟩ = some (.string (gd ss 0)) := by simpa using hsl.cellAt hbel1 h0
                  have hlz := hsl.len 0 h0
                  generalize gd ss 0 = s0 at hcx hkd hne hlz
                  obtain ⟨X1, X2, e1, d1, e2, m2, v2, q2, s2, k2, z2⟩ := draw17 wc w.heap.size _ _ _ _ s0 hlz 1 2 k12 hk12 (w.heap.size + 4) hsz1 hS1 hM1 hV1 (by omega)
                  go_wp2
                  go_region
                  go_wp2
                  go_meet
                  case rel => exact ⟨s0, w.heap.size + 5, congrArg Value.bool hkc.symm, rfl, hlz, fun _ => hne, m2, (DV0_yes hkc) ▸ v2, s2, below_kept hbel1 k2 (fun i h => by omega) (by omega), z2, fun _ => q2, by omega⟩
              case rest =>
                obtain ⟨kk, z, rfl, rfl, hkk, hkne, hM2, hV2, hS2, hbel2, hsz2, hq2, hzle⟩ := hcut
                clear hM1 hV1 hS1 hbel1 hsz1 c4
                obtain ⟨X1, X2, e1, d1, e2, m2, v2, q2, s2, k2, z2⟩ := draw17 wc w.heap.size _ _ _ _ h hh 3 4 k34 hk34 z hsz2 hS2 hM2 hV2 (by omega)
                have c4 := hS2.c 4
                simp [sto] at c4
                have hl2 : w.heap.size + 1 + 1 < z := by omega
                have c4' : ∀ o, (wc.alloc o).cell? ⟨w.heap.size + 1 + 1, 4, none⟩ = some (.map (some (w.heap.size + 3))) := fun o => (World.cell?_of_block (w := wc) (old_alloc wc o (show w.heap.size + 2 < _ by omega))).trans c4
                go_wp2
                go_region
                go_wp2
                go_meet
                case rel => exact ⟨kk, congrArg Value.bool hpre.symm, rfl, rfl, hkk, hkne, m2, below_kept hbel2 k2 (fun i h => by omega) (by omega), Or.inr ⟨hpre, s2, by omega, _, v2, fun e => (hq2 e).keep k2 (by omega)⟩⟩
        case rest =>
          obtain ⟨kk, rfl, rfl, rfl, hkk, hkne, hP⟩ := hcut
          clear hM hS hbel hsz c3
          go_upto_region 18 with fail
          go_cut [15] from 102 to 105 (fun s15 wx => ∃ (bd : Nat) (DV : DataW Value), s15 = .map (some bd) ∧ Sto wx w.heap.size (.map (some (w.heap.size + 3))) ∧ Mp wx 9 (w.heap.size + 1) (k + 1) ((Du ss k).put (kS h) (.held (pd 4294967295 0))) ∧ Mp wx 9 (w.heap.size + 3) 4 DV ∧ Mp wx 70 bd 0 (.map []) ∧ Sev DV w.heap.size bd hk h kk ∧ Below w.heap.size w wx ∧ w.heap.size + 4 ≤ bd ∧ (hk = true → bd ≠ w.heap.size + 4 ∧ Mp wx 70 (w.heap.size + 4) 1 ((DataW.map []).put k12 (.held (.agg #[])))))
          case first =>
            obtain ⟨hM, hbel, hP⟩ := hP
            rcases hP with ⟨hp, hkf, hS, hsz⟩ | ⟨hp, hS, hsz, x, hV, hq⟩
            · have Hf : Hid (hk = false) := hkf
              clear hkf hp
              go_wp2_with (go_at_call 12; refine (idx_nil w.heap.size _ _ h _ _ hS hM hh (by omega)).mono ?_)
              rintro e w1 ⟨rfl, s1, u1, v1, d1, k1, z1⟩
              go_wp2
              go_meet
              case rel =>
                rw [hsz] at s1 v1 d1
                exact ⟨w.heap.size + 4, _, rfl, s1, u1, v1.mono (by omega), d1, Sev_nil _ _ _ _ Hf.out, below_kept hbel k1 (fun i h => by omega) (by omega), Nat.le_refl _, fun e => Bool.noConfusion (Hf.out.symm.trans e)⟩
            · have Hp : Hid (pre = true) := hp
              clear hp
              go_wp2_with (go_at_call 12; refine (idx_some w.heap.size (w.heap.size + 3) _ _ _ _ h _ _ hS hM hV (by omega) hh (by omega) (by omega)).mono ?_)
              rintro e w1 ⟨rfl, u1, v1, d1, k1, z1⟩
              go_wp2
              go_meet
              case rel => exact ⟨_, _, rfl, hS.kept k1 (by omega) (by omega), u1, v1.mono (by omega), d1, Sev_some _ _ _ _ _ _ hkne, below_kept hbel k1 (fun i h => by omega) (by omega), by omega, fun e => ⟨by omega, (hq e).keep k1 (by omega)⟩⟩
          case rest =>
            obtain ⟨bd, DV, rfl, hS, hU, hV, hD, hSev, hbel, hbd, hkp⟩ := hcut
            clear hP
            have hq72 := fun (w : World) (r : Option Nat) => run_eql_map_nil (P := Yba.prog) w 72 70 71 r Yba.underlying72
            have hq65 := fun (w : World) (r : Option Nat) => run_eql_map_nil (P := Yba.prog) w 65 9 72 r Yba.underlying65
            have hkey := keyS hh
            have c3 := hS.c 3
            have c4 := hS.c 4
            simp [sto] at c3 c4
            have lU := look_put_same (D := Du ss k) (Du_isMap ss k) (isKey h) (pd 4294967295 0) (pd 0 0)
            go_wp2_with (first
              | (at_len; refine wpList_len_is _ rfl (.tmp 109) 72 rfl 70 71 Yba.underlying72 bd _ _ rfl hD 0 rfl ?_)
              | (at_lookup; refine wpList_look _ rfl (.tmp 121) (.tmp 122) 62 rfl 9 70 lawS Yba.underlying62 (zero70 _) _ _ _ rfl hU _ _ rfl hkey (.agg #[.int .u32 4294967295, .int .u64 0]) lU ?_)
              | (at_mapUpdate; refine wpList_put _ rfl (.tmp 126) (.tmp 127) (.tmp 128) 72 rfl 70 71 law70 Yba.underlying72 bd _ _ rfl hD (by unfold maxLen; omega) _ _ _ rfl rfl hk99 ?_))
            intro w1 hD1 hg1 hz1
            have k1 : Keep (fun i => i = bd) wc w1 := (Keep.refl _ _).grown hg1 (fun j hj _ => by simpa using hj.symm)
            have hS1 := hS.kept k1 (by omega) (by omega)
            have hU1 := hU.keep k1 (by omega)
            have hV1 := hV.keep k1 (by omega)
            have hb1 := below_kept hbel k1 (fun i h => by omega) (by have := hS.lt; omega)
            have hkp1 := fun e => (hkp e).2.keep k1 (fun h => (hkp e).1 h.symm)
            clear c3 c4 hS hU hV hD hbel hkp k1 hg1 hq72 hq65 lU
            have c4 := hS1.c 4
            simp [sto] at c4
            have sz99 := size_one k99 (.agg #[])
            have lk99 := look_one (law70.key hk99) (.agg #[]) (.agg #[])
            have hs99 := has_one (law70.key hk99) (.agg #[])
            go_upto_if 153 with (first
              | (at_len; refine wpList_len_is _ rfl (.tmp 141) 72 rfl 70 71 Yba.underlying72 bd _ _ rfl hD1 1 sz99 ?_)
              | (at_lookup; refine wpList_look_ok _ rfl (.tmp 133) (.tmp 134) 65 rfl 9 72 lawS Yba.underlying65 (zero72 _) _ _ _ rfl hV1 _ _ rfl hkey (.map (some bd)) hSev.look true hSev.has ?_)
              | (at_lookup; refine wpList_look_ok _ rfl (.tmp 146) (.tmp 147) 72 rfl 70 71 law70 Yba.underlying72 (zero71 _) _ _ _ rfl hD1 _ _ rfl hk99 (.agg #[]) lk99 true hs99 ?_))
            have kA : ∀ o, Keep (fun _ => False) w1 (w1.alloc o) := fun o => (Keep.refl _ _).alloc o
            go_cut [14, 20] from 153 to 170 (fun s14 s20 wx => ∃ m : Nat, s14 = .bool hk ∧ s20 = .int .i64 m ∧ size DV = m ∧ Sto wx w.heap.size (.map (some (w.heap.size + 3))) ∧ Mp wx 9 (w.heap.size + 1) (k + 1) ((Du ss k).put (kS h) (.held (pd 4294967295 0))) ∧ Mp wx 9 (w.heap.size + 3) 4 DV ∧ Below w.heap.size w wx)
            case first =>
              have HA : Hid (∀ o, Keep (fun _ => False) w1 (w1.alloc o)) := kA
              clear kA
              cases hkc : hk
              · go_wp2
                go_meet
                case rel =>
                  have kk1 := HA.out (.cells #[] 71)
                  exact ⟨1, congrArg Value.bool hkc.symm, rfl, by rw [hSev.size, hkc]; rfl, hS1.kept kk1 (fun h => h) (fun h => h), hU1.keep kk1 (fun h => h), hV1.keep kk1 (fun h => h), below_kept hb1 kk1 (fun _ h => h.elim) (by have := hS1.lt; omega)⟩
              · have hkey2 := keyS hkk
                have hkp2 := (hkp1 hkc).alloc (.cells #[] 71)
                have hV2 := hV1.alloc (.cells #[] 71)
                have hkl := hSev.keep hkc
                have sz12 := size_one k12 (.agg #[])
                have lk12 := look_one (law70.key hk12) (.agg #[]) (.agg #[])
                have hs12 := has_one (law70.key hk12) (.agg #[])
                have hlt1 : w.heap.size + 1 + 1 < wc.heap.size := by have := hS1.lt; omega
                have Hkc : Hid (hk = true) := hkc
                clear hkc
                go_wp2_with (first
                  | (at_len; refine wpList_len_is _ rfl (.tmp 160) 72 rfl 70 71 Yba.underlying72 _ _ _ rfl hkp2 1 sz12 ?_)
                  | (at_lookup; refine wpList_look _ rfl (.tmp 157) (.tmp 158) 65 rfl 9 72 lawS Yba.underlying65 (zero72 _) _ _ _ rfl hV2 _ _ rfl hkey2 (.map (some (w.heap.size + 4))) hkl ?_)
                  | (at_lookup; refine wpList_look_ok _ rfl (.tmp 164) (.tmp 165) 72 rfl 70 71 law70 Yba.underlying72 (zero71 _) _ _ _ rfl hkp2 _ _ rfl hk12 (.agg #[]) lk12 true hs12 ?_))
                go_meet
                case rel =>
                  have kk1 : Keep (fun _ => False) w1 ((w1.alloc (.cells #[] 71)).alloc (.cells #[] 71)) := ((Keep.refl _ _).alloc _).alloc _
                  exact ⟨2, congrArg Value.bool Hkc.out.symm, rfl, by rw [hSev.size, Hkc.out]; rfl, hS1.kept kk1 (fun h => h) (fun h => h), hU1.keep kk1 (fun h => h), hV1.keep kk1 (fun h => h), below_kept hb1 kk1 (fun _ h => h.elim) (by have := hS1.lt; omega)⟩
            case rest =>
              obtain ⟨m, rfl, rfl, hm, hS, hU, hV, hbel⟩ := hcut
              clear c4 hS1 hU1 hV1 hb1 hkp1 hD1 kA hSev
              have Hm : Hid (size DV = m) := hm
              clear hm
              have c4 := hS.c 4
              simp [sto] at c4
              go_wp2_with (first
                | (at_len; refine wpList_len_is _ rfl (.tmp 174) 65 rfl 9 72 Yba.underlying65 _ _ _ rfl hV m Hm.out ?_))
              clear c4 hV Hm
              have hc0 := hS.c 0
              have hc1 := hS.c 1
              have hc2 := hS.c 2
              have hc3 := hS.c 3
              have hc5 := hS.c 5
              simp [sto] at hc0 hc1 hc2 hc3 hc5
              have hnm := cell_block hS.nm 0
              simp at hnm
              go_loop [24, 25, 180] (fun d hi i => ∃ q : Nat, q ≤ k ∧ i = .int .i64 q ∧ d = .int .i64 (nd ss q) ∧ hi = .bool (seenB ss h q)) (fun _ _ i => k - (intOf i).toNat)
              case atStart => exact ⟨0, Nat.zero_le _, rfl, rfl, rfl⟩
              case round =>
                obtain ⟨q, hq, rfl, rfl, rfl⟩ := hrel
                have hndq := nd_le ss q
                by_cases hlt : q < k
                · have hix := hsl.index hlt cap1
                  have hcx := hsl.cellAt hbel hlt
                  have hkq := keyS (hsl.len q hlt)
                  obtain ⟨e1, he1⟩ : ∃ e1, ((gd ss q).toList == h.toList) = e1 := ⟨_, rfl⟩
                  go_upto_if 187 with fail
                  go_cut [25] from 187 to 187 (fun s25 wx => s25 = .bool (seenB ss h (q + 1)) ∧ wx = wc)
                  case first =>
                    cases e1
                    · go_wp2
                      go_meet
                      case rel => exact ⟨congrArg Value.bool (seen_same he1).symm, rfl⟩
                    · go_wp2
                      go_meet
                      case rel => exact ⟨congrArg Value.bool (seen_succ he1).symm, rfl⟩
                  case rest =>
                    obtain ⟨rfl, rfl⟩ := hcut
                    go_wp2
                    go_loop [28, 29] (fun f j => ∃ r : Nat, r ≤ q ∧ j = .int .i64 r ∧ f = .bool true ∧ seenB ss (gd ss q) r = false) (fun _ j => q - (intOf j).toNat)
                    case atStart => exact ⟨0, Nat.zero_le _, rfl, rfl, rfl⟩
                    case round =>
                      obtain ⟨r, hr, rfl, rfl, hns⟩ := hrel
                      by_cases hrq : r < q
                      · have hix2 := hsl.index (show r < k by omega) cap1
                        have hcx2 := hsl.cellAt hbel (show r < k by omega)
                        cases e2 : ((gd ss r).toList == (gd ss q).toList)
                        · go_wp2
                          go_round
                          case rel => exact ⟨r + 1, by omega, by go_num, rfl, (seen_same e2).trans hns⟩
                          case measure => simp [intOf]; omega
                        · have Hsn : Hid (seenB ss (gd ss q) q = true) := seen_of (show eqB (gd ss r) (gd ss q) = true from e2) hrq
                          clear hns
                          go_wp2
                          go_round
                          case rel => exact ⟨q + 1, by omega, by go_num, by rw [nd_seen Hsn.out], rfl⟩
                          case measure => simp [intOf]; omega
                      · obtain rfl : r = q := by omega
                        have Hns : Hid (seenB ss (gd ss r) r = false) := hns
                        clear hns
                        go_wp2
                        go_loop [30, 31] (fun l j => ∃ p s : Nat, r < s ∧ s ≤ k ∧ j = .int .i64 s ∧ l = .int .i64 p ∧ p < s ∧ Hid (eqB (gd ss p) (gd ss r) = true ∧ ∀ t, p < t → t < s → eqB (gd ss t) (gd ss r) = false)) (fun _ j => k - (intOf j).toNat)
                        case atStart => exact ⟨r, r + 1, by omega, by omega, by go_num, rfl, by omega, ⟨eqB_refl _, fun t h1 h2 => absurd h1 (by omega)⟩⟩
                        case round =>
                          obtain ⟨p, s, hrs, hsk, rfl, rfl, hps, hps2⟩ := hrel
                          by_cases hsk2 : s < k
                          · have hix2 := hsl.index hsk2 cap1
                            have hcx2 := hsl.cellAt hbel hsk2
                            cases e2 : ((gd ss s).toList == (gd ss r).toList)
                            · go_wp2
                              go_round
                              case rel => exact ⟨p, s + 1, by omega, by omega, by go_num, rfl, by omega, last_no hps2.out e2⟩
                              case measure => simp [intOf]; omega
                            · go_wp2
                              go_round
                              case rel => exact ⟨s, s + 1, by omega, by omega, by go_num, rfl, by omega, last_yes e2⟩
                              case measure => simp [intOf]; omega
                          · obtain rfl : s = k := by omega
                            cases e1
                            · have lkf := look_fin ss h (gd ss r) (pd 0 0) (pd 4294967295 0) p s he1 hps2.out.1 hps hps2.out.2
                              go_wp2_with (first
                                | (at_lookup; refine wpList_look _ rfl (.tmp 226) (.tmp 227) 62 rfl 9 70 lawS Yba.underlying62 (zero70 _) _ _ _ rfl hU _ _ rfl hkq (.agg #[.int .u32 p, .int .u64 (p + 1)]) lkf ?_))
                              go_round
                              case rel => exact ⟨r + 1, by omega, by go_num, by rw [nd_new Hns.out]; go_num, rfl⟩
                              case measure => simp [intOf]; omega
                            · go_wp2
                              go_round
                              case rel => exact ⟨r + 1, by omega, by go_num, by rw [nd_new Hns.out]; go_num, rfl⟩
                              case measure => simp [intOf]; omega
                · obtain rfl : q = k := by omega
                  have hsf := size_fin ss h q (pd 4294967295 0)
                  have hn63 := fun (w : World) (r : Option Nat) => run_neq_map_nil (P := Yba.prog) w 63 9 68 r Yba.underlying63
                  have hn64 := fun (w : World) (r : Option Nat) => run_neq_map_nil (P := Yba.prog) w 64 103 105 r Yba.underlying64
                  cases e3 : seenB ss h q
                  · have hsf2 : size ((Du ss q).put (kS h) (.held (pd 4294967295 0))) = nd ss q + 1 := by rw [hsf, e3]; rfl
                    clear hsf
                    go_wp2_with (first
                      | (at_len; refine wpList_len_is _ rfl (.tmp 246) 62 rfl 9 70 Yba.underlying62 _ _ _ rfl hU _ hsf2 ?_))
                    go_ret
                    exact ⟨rfl, hbel⟩
                  · have hsf2 : size ((Du ss q).put (kS h) (.held (pd 4294967295 0))) = nd ss q := by rw [hsf, e3]; rfl
                    clear hsf
                    go_wp2_with (first
                      | (at_len; refine wpList_len_is _ rfl (.tmp 246) 62 rfl 9 70 Yba.underlying62 _ _ _ rfl hU _ hsf2 ?_))
                    go_ret
                    exact ⟨rfl, hbel⟩
end Go.Proofs.Ybulkcxce.Marks
