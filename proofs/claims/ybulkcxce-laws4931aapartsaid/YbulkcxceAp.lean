import Derived.Test.YbulkcxceApA
namespace Go.Proofs.Ybulkcxce.Ctx
open Go Go.Maps Go.RowKit
set_option linter.unusedVariables false

theorem index39z {a : Option Addr} {n g : Nat} (ha : 0 < n → a = some ⟨g, 0, none⟩) (hk : 0 < n) (c : Nat) (W : World) :
    (Instr.indexAt 39 (.slice a n c) (.int .i64 0)).run Yba.prog W = .ok (.pointer (some ⟨g, 0, none⟩)) W := by
  have := index39 (c := c) ha hk W
  simpa using this

set_option maxRecDepth 100000 in
set_option maxHeartbeats 1000000 in
theorem apart_small (w : World) (a1 a2 : Option Addr) (n1 n2 c1 c2 b1 o1 b2 o2 : Nat) (nm cm : Nat → ByteArray) (nn : Nat → Int) (ra : Nat → Option Addr) (rc : Nat → Nat) (rs : Nat → List (Int × Int)) (rb ro : Nat → Nat)
    (hV : VVin w a1 n1 nm nn b1 o1) (hC : CLin w a2 n2 cm ra rc rs b2 o2 rb ro) (hs : Small n1 n2 rs) :
    Calls Yba.prog 4 #[.slice a1 n1 c1, .slice a2 n2 c2] w fun e w' => e = .returned (.bool true) ∧ Below w.heap.size w w' := by
  obtain ⟨sm1, sm2, sm3⟩ := id hs
  go_enter Yba.func4, Yba.ntmps4
  go_wp2_with (go_at_call 7; refine (small_yes _ a1 a2 n1 n2 c1 c2 b2 o2 cm ra rc rs rb ro hC hs).mono ?_)
  rintro e wA ⟨rfl, kA⟩
  have hV1 := hV.keep kA (fun _ _ e => e)
  have hC1 := hC.keep kA (fun _ _ e => e)
  go_wp2_with (go_at_call 8; refine (build _ false false a1 a2 n1 n2 c1 c2 b1 o1 b2 o2 nm cm nn ra rc rs rb ro hV1 hC1 hs).mono ?_)
  rintro e wB ⟨mv, mc, Dv, Dc, rfl, hB⟩
  have kC : Keep (fun _ => False) wB (wB.alloc (.cells #[.map mv, .map mc] 29)) := (Keep.refl _ _).alloc _
  go_wp2_with (go_at_call 9; refine (clone_any _ wA.heap.size n1 n2 mv mc Dv Dc hs.2.1 (hB.v.keep kC (fun _ _ e => e)) (hB.c.keep kC (fun _ _ e => e)) (hB.runs.above kC (fun _ _ e => e.elim))).mono ?_)
  rintro e wD ⟨bv, bc, Dd, rfl, hCl⟩
  go_upto_region 5 with fail
  generalize hX : wD.alloc (.cells #[.map (some bv), .map (some bc)] 29) = X
  have hS := sep_of hB hCl hX.symm
  have kwC : Keep (fun _ => False) w (wB.alloc (.cells #[.map mv, .map mc] 29)) := keep_far (keep_far kA hB.keep (fun _ e => e.elim)) kC (fun _ e => e.elim)
  have hcv := hB.v.keep kC (fun _ _ e => e)
  have hcc := hB.c.keep kC (fun _ _ e => e)
  have hcB := at_alloc wB (.cells #[.map mv, .map mc] 29)
  have hints := hB.ints
  clear hX hCl kC hB hV1 hC1 kA
  generalize wB.heap.size = Cb at *
  generalize wD.heap.size = Db at *
  generalize wB.alloc (.cells #[.map mv, .map mc] 29) = C at *
  generalize wA.heap.size = base at *
  go_wp2
  go_loopw [30] (fun i wr => ∃ k : Nat, k ≤ n2 ∧ i = .int .i64 k ∧ Sep C wr base Db bv bc n1 n2 Dc Dd) (fun i _ => n2 - (intOf i).toNat)
  case atStart => exact ⟨0, Nat.zero_le _, rfl, hS⟩
  case round =>
    clear hS
    obtain ⟨k, hk, rfl, hS⟩ := hrel
    have kwr := keep_far kwC hS.keep (fun _ e => e.elim)
    by_cases hlt : k < n2
    · have hix := index23 hC.at_ hlt c2
      have hCr := hC.keep kwr (fun _ _ e => e)
      have v0 := hCr.c0 k hlt
      have v1 := hCr.c1 k hlt
      have hkey := keyS (hC.sz k hlt)
      obtain ⟨rr, hrn, hr1, hr2⟩ := hS.rows (kS (cm k)) (isKey _)
      obtain ⟨az, cz, gz, hz1, hz2, hz3⟩ := hr1.form
      obtain ⟨z2, hzd⟩ : ∃ z2, look Dd (kS (cm k)) (.slice none 0 0) = z2 := ⟨_, rfl⟩
      rw [hzd] at hr2
      have q1 : ∀ o, (wr.alloc o).cell? ⟨Cb, 1, none⟩ = some (.map mc) := cell_al (cell_block ((hS.keep.block _ (lt_of_block hcB) (fun e => e)).trans hcB) 1)
      have hccr := fun o => hcc.keep (hS.keep.alloc o) (fun _ _ e => e)
      by_cases hpos : 0 < rr.length
      · obtain ⟨ea, ho, _, hgC⟩ := hz2 hpos
        obtain ⟨gd, cd, xd, rfl, hgd, hbd, hxd⟩ := hr2 hpos
        have q2 : ∀ o, (wr.alloc o).cell? ⟨Db, 1, none⟩ = some (.map (some bc)) := cell_al (cell_block hS.dB 1)
        have hi1 := index39z (fun _ => ea) hpos cz
        have hi2 := index39z (a := some ⟨gd, 0, none⟩) (fun _ => rfl) hpos cd
        have y0 : ∀ o, (wr.alloc o).cell? ⟨gz, 0, none⟩ = some (.int .u64 (lo rr 0)) := cell_al ((hS.keep.cell (p := ⟨gz, 0, none⟩) hgC (fun e => e)).trans (by simpa using (hz3 0 hpos).1))
        have hgl := lt_of_block hbd
        have hbo : ∀ o, (wr.alloc o).heap[gd]? = some (.cells xd 43 (0, 0)) := fun o => (old_alloc wr o hgl).trans hbd
        have y1 : ∀ o, (wr.alloc o).cell? ⟨gd, 0, none⟩ = some (xd[0]'hxd) := fun o => (cell_block (hbo o) 0).trans (Array.getElem?_eq_getElem hxd)
        have y2 : ∀ o, (wr.alloc o).frozen? ⟨gd, 0, none⟩ = false := fun o => free_block (hbo o) 0
        have hS2 : ∀ o u, Sep C ((wr.setCell ⟨gd, 0, none⟩ u).alloc o) base Db bv bc n1 n2 Dc Dd := fun o u => (hS.setRow hbd hgd u).alloc o
        have hccs := fun o u => hcc.keep (hS2 o u).keep (fun _ _ e => e)
        have p1 : ∀ o u, ((wr.setCell ⟨gd, 0, none⟩ u).alloc o).cell? ⟨Cb, 1, none⟩ = some (.map mc) := fun o u => cell_block (((hS2 o u).keep.block _ (lt_of_block hcB) (fun e => e)).trans hcB) 1
        have p2 : ∀ o u, ((wr.setCell ⟨gd, 0, none⟩ u).alloc o).cell? ⟨gz, 0, none⟩ = some (.int .u64 (lo rr 0)) := fun o u => ((hS2 o u).keep.cell (p := ⟨gz, 0, none⟩) hgC (fun e => e)).trans (by simpa using (hz3 0 hpos).1)
        have HS := show Hid _ from hS
        have HCR := show Hid _ from hccr
        have HCS := show Hid _ from hccs
        clear hS hCr hbo hccr hccs
        go_wp2_with (first
          | (at_lookup; refine wpList_lookO _ rfl (.tmp 35) (.tmp 37) 27 rfl 9 39 lawS Yba.underlying27 (zero39 _) mc _ _ rfl (HCR.out _) _ _ rfl hkey _ hz1 ?_)
          | (at_lookup; refine wpList_lookO _ rfl (.tmp 47) (.tmp 49) 27 rfl 9 39 lawS Yba.underlying27 (zero39 _) (some bc) _ _ rfl (Or.inr ⟨bc, rfl, (HS.out.alloc _).dc⟩) _ _ rfl hkey _ hzd ?_)
          | (at_lookup; refine wpList_lookO _ rfl (.tmp 56) (.tmp 58) 27 rfl 9 39 lawS Yba.underlying27 (zero39 _) mc _ _ rfl (HCS.out _ _) _ _ rfl hkey _ hz1 ?_))
        go_roundw
        case rel => exact ⟨k + 1, by omega, by go_num, hS2 _ _⟩
        case measure => simp [intOf]; omega
      · go_wp2_with (at_lookup; refine wpList_lookO _ rfl (.tmp 35) (.tmp 37) 27 rfl 9 39 lawS Yba.underlying27 (zero39 _) mc _ _ rfl (hccr _) _ _ rfl hkey _ hz1 ?_)
        go_roundw
        case rel => exact ⟨k + 1, by omega, by go_num, hS.alloc _⟩
        case measure => simp [intOf]; omega
    · go_wp2
      clear hlt hk kwr
      go_loopw [68] (fun i wr => ∃ k : Nat, k ≤ n1 ∧ i = .int .i64 k ∧ Sep C wr base Db bv bc (n1 + k) n2 Dc Dd) (fun i _ => n1 - (intOf i).toNat)
      case atStart => exact ⟨0, Nat.zero_le _, rfl, hS⟩
      case round =>
        clear hS
        obtain ⟨k2, hk, rfl, hS⟩ := hrel
        have kwr := keep_far kwC hS.keep (fun _ e => e.elim)
        obtain ⟨Dv', hdv⟩ := hS.dv
        have hbvl := hdv.lt
        have hvb := hS.vb
        have hCl := lt_of_block hcB
        have hCw := hS.keep.size
        by_cases hlt : k2 < n1
        · have hix := index22 hV.at_ hlt c1
          have hVr := hV.keep kwr (fun _ _ e => e)
          have v0 := hVr.c0 k2 hlt
          have v1 := hVr.c1 k2 hlt
          have hkey := keyS (hV.sz k2 hlt)
          obtain ⟨x, hx⟩ := hints (kS (nm k2)) (isKey _)
          have q0 : ∀ o, (wr.alloc o).cell? ⟨Cb, 0, none⟩ = some (.map mv) := cell_al (cell_block ((hS.keep.block _ (lt_of_block hcB) (fun e => e)).trans hcB) 0)
          have q2 : ∀ o, (wr.alloc o).cell? ⟨Db, 0, none⟩ = some (.map (some bv)) := cell_al (cell_block hS.dB 0)
          have hcvr := fun o => hcv.keep (hS.keep.alloc o) (fun _ _ e => e)
          have HS := show Hid _ from hS
          have HCR := show Hid _ from hcvr
          clear hS hVr hcvr
          go_wp2_with (first
            | (at_lookup; refine wpList_look_okO _ rfl (.tmp 74) (.tmp 76) 26 rfl 9 32 lawS Yba.underlying26 (zero32 _) mv _ _ rfl (HCR.out _) _ _ rfl hkey _ hx _ rfl ?_)
            | (at_mapUpdate; refine wpList_put _ rfl (.tmp 81) (.tmp 83) (.tmp 85) 26 rfl 9 32 lawS Yba.underlying26 _ _ _ rfl (hdv.alloc _) (by unfold maxLen; omega) _ _ _ rfl rfl hkey ?_))
          intro w1 hM hg hsz
          have hS2 := (HS.out.alloc _).putV hM hg
          have q0 : w1.cell? ⟨Cb, 0, none⟩ = some (.map mv) := cell_block ((hS2.keep.block _ (lt_of_block hcB) (fun e => e)).trans hcB) 0
          have q1 : w1.cell? ⟨wr.heap.size, 0, none⟩ = some (.string (nm k2)) := (grown_cell hg (by simp) (by simp; omega)).trans (cell_block (at_alloc wr _) 0)
          have hcvr := hcv.keep hS2.keep (fun _ _ e => e)
          have HS2 := show Hid _ from hS2
          clear hS2
          go_wp2_with (at_lookup; refine wpList_look_okO _ rfl (.tmp 88) (.tmp 90) 26 rfl 9 32 lawS Yba.underlying26 (zero32 _) mv _ _ rfl hcvr _ _ rfl hkey _ hx _ rfl ?_)
          go_roundw
          case rel => exact ⟨k2 + 1, by omega, by go_num, HS2.out⟩
          case measure => simp [intOf]; omega
        · have c0 : wr.cell? ⟨Cb, 0, none⟩ = some (.map mv) := cell_block ((hS.keep.block _ (lt_of_block hcB) (fun e => e)).trans hcB) 0
          have c1 : wr.cell? ⟨Cb, 1, none⟩ = some (.map mc) := cell_block ((hS.keep.block _ (lt_of_block hcB) (fun e => e)).trans hcB) 1
          have d0 : wr.cell? ⟨Db, 0, none⟩ = some (.map (some bv)) := cell_block hS.dB 0
          have hcvr := hcv.keep hS.keep (fun _ _ e => e)
          have hccr := hcc.keep hS.keep (fun _ _ e => e)
          go_wp2_with (first
            | (at_len; refine wpList_lenO _ rfl (.tmp 104) 26 rfl 9 32 Yba.underlying26 mv _ _ rfl hcvr _ rfl ?_)
            | (at_len; refine wpList_lenO _ rfl (.tmp 107) 27 rfl 9 39 Yba.underlying27 mc _ _ rfl hccr _ rfl ?_)
            | (at_mapUpdate; refine wpList_put _ rfl _ _ _ 26 rfl 9 32 lawS Yba.underlying26 _ _ _ rfl hdv (by unfold maxLen; omega) _ _ (kS ⟨#[122, 122, 255, 110, 101, 119]⟩) rfl rfl (by kernel_rfl) ?_))
          intro w1 hM hg hsz
          have hS2 := hS.putV hM hg
          have d1 : w1.cell? ⟨Db, 1, none⟩ = some (.map (some bc)) := cell_block hS2.dB 1
          go_wp2_with (at_mapUpdate; refine wpList_put _ rfl _ _ _ 27 rfl 9 39 lawS Yba.underlying27 _ _ _ rfl hS2.dc (by unfold maxLen; omega) _ _ (kS ⟨#[122, 122, 255, 110, 101, 119]⟩) rfl rfl (by kernel_rfl) ?_)
          intro w2 hM2 hg2 hsz2
          have k2 : Keep (fun _ => False) C w2 := by
            have hk : Keep (fun i => i = bc) w1 w2 := (Keep.refl _ _).grown hg2 (fun j hj _ => by simpa using hj.symm)
            exact keep_far hS2.keep hk (fun i e => by have := hS2.cb; omega)
          have e0 : w2.cell? ⟨Cb, 0, none⟩ = some (.map mv) := cell_block ((k2.block _ (lt_of_block hcB) (fun e => e)).trans hcB) 0
          have e1 : w2.cell? ⟨Cb, 1, none⟩ = some (.map mc) := cell_block ((k2.block _ (lt_of_block hcB) (fun e => e)).trans hcB) 1
          have hcv2 := hcv.keep k2 (fun _ _ e => e)
          have hcc2 := hcc.keep k2 (fun _ _ e => e)
          have kw2 := keep_far kwC k2 (fun _ e => e.elim)
          clear c0 c1 d0 d1 hS hS2
          go_wp2_with (first
            | (at_len; refine wpList_lenO _ rfl (.tmp 114) 26 rfl 9 32 Yba.underlying26 mv _ _ rfl hcv2 _ rfl ?_)
            | (at_len; refine wpList_lenO _ rfl (.tmp 120) 27 rfl 9 39 Yba.underlying27 mc _ _ rfl hcc2 _ rfl ?_))
          go_ret
          exact ⟨rfl, kw2.below (fun _ e => e.elim) (Nat.le_refl _)⟩

theorem apart_big (w : World) (a1 a2 : Option Addr) (n1 n2 c1 c2 b2 o2 : Nat) (cm : Nat → ByteArray) (ra : Nat → Option Addr) (rc : Nat → Nat) (rs : Nat → List (Int × Int)) (rb ro : Nat → Nat)
    (hC : CLin w a2 n2 cm ra rc rs b2 o2 rb ro) (hs : ¬ Small n1 n2 rs) :
    Calls Yba.prog 4 #[.slice a1 n1 c1, .slice a2 n2 c2] w fun e w' => e = .returned (.bool true) ∧ Below w.heap.size w w' := by
  go_enter Yba.func4, Yba.ntmps4
  go_wp2_with (go_at_call 7; refine (small_no _ a1 a2 n1 n2 c1 c2 b2 o2 cm ra rc rs rb ro hC hs).mono ?_)
  rintro e wA ⟨rfl, kA⟩
  go_wp2
  go_ret
  exact ⟨rfl, kA.below (fun _ e => e.elim) (Nat.le_refl _)⟩

theorem apart (w : World) (a1 a2 : Option Addr) (n1 n2 c1 c2 b1 o1 b2 o2 : Nat) (nm cm : Nat → ByteArray) (nn : Nat → Int) (ra : Nat → Option Addr) (rc : Nat → Nat) (rs : Nat → List (Int × Int)) (rb ro : Nat → Nat)
    (hV : VVin w a1 n1 nm nn b1 o1) (hC : CLin w a2 n2 cm ra rc rs b2 o2 rb ro) :
    Calls Yba.prog 4 #[.slice a1 n1 c1, .slice a2 n2 c2] w fun e w' => e = .returned (.bool true) ∧ Below w.heap.size w w' := by
  by_cases hs : Small n1 n2 rs
  · exact apart_small w a1 a2 n1 n2 c1 c2 b1 o1 b2 o2 nm cm nn ra rc rs rb ro hV hC hs
  · exact apart_big w a1 a2 n1 n2 c1 c2 b2 o2 cm ra rc rs rb ro hC hs

end Go.Proofs.Ybulkcxce.Ctx
