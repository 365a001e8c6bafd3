import Derived.Test.YbulkcxceCtxD
namespace Go.Proofs.Ybulkcxce.Ctx
open Go Go.Maps Go.RowKit
set_option linter.unusedVariables false

theorem clone_any (W : World) (base n1 n2 : Nat) (mv mc : Option Nat) (Dv Dc : DataW Value) (hn : n2 ≤ 1024) (hV : MpO W 9 mv n1 Dv) (hC : MpO W 9 mc n2 Dc) (hR : RunMap W base Dc) :
    Calls Yba.prog 9 #[.agg #[.map mv, .map mc]] W fun e W' => ∃ bv bc Dd, e = .returned (.agg #[.map (some bv), .map (some bc)]) ∧ Cloned W W' base n1 n2 Dv Dc Dd bv bc := by
  rcases hC with ⟨rfl, rfl⟩ | ⟨b, rfl, hC⟩
  · exact clone_nil W base n1 n2 mv Dv hV
  · exact clone_some W base n1 n2 b mv Dv Dc hn hV hC hR

/-- The two contexts in memory. -/
structure Two (W : World) (Cb Db base base2 n1 n2 : Nat) (mv mc : Option Nat) (bv bc : Nat) (Dv Dc Dd : DataW Value) : Prop where
  cB : W.heap[Cb]? = some (.cells #[.map mv, .map mc] 29 (0, 0))
  dB : W.heap[Db]? = some (.cells #[.map (some bv), .map (some bc)] 29 (0, 0))
  cv : MpO W 9 mv n1 Dv
  cc : MpO W 9 mc n2 Dc
  dv : Mp W 9 bv n1 Dv
  dc : Mp W 9 bc n2 Dd
  keys : ∀ kl, has Dd kl = has Dc kl
  size : size Dd = size Dc
  ints : IntMap Dv
  runs : CloneMap W base base2 Dc Dd

theorem Two.keep {W W' : World} {Cb Db base base2 n1 n2 : Nat} {mv mc : Option Nat} {bv bc : Nat} {Dv Dc Dd : DataW Value} (h : Two W Cb Db base base2 n1 n2 mv mc bv bc Dv Dc Dd) (k : Keep (fun _ => False) W W') : Two W' Cb Db base base2 n1 n2 mv mc bv bc Dv Dc Dd :=
  ⟨(k.block _ (lt_of_block h.cB) (fun e => e)).trans h.cB, (k.block _ (lt_of_block h.dB) (fun e => e)).trans h.dB, h.cv.keep k (fun _ _ e => e), h.cc.keep k (fun _ _ e => e), h.dv.keep k (fun e => e), h.dc.keep k (fun e => e), h.keys, h.size, h.ints,
    fun kl hk => by obtain ⟨rs, hn, h1, h2⟩ := h.runs kl hk; exact ⟨rs, hn, h1.keep k (fun _ _ e => e), h2.keep k (fun _ _ e => e)⟩⟩

/-- From the two calls' ends to 'Two'. -/
theorem two_of {wA wB wD X : World} {nv nc : Bool} {n1 n2 : Nat} {mv mc : Option Nat} {Dv Dc Dd : DataW Value} {bv bc : Nat} (hb : Built wA wB nv nc n1 n2 mv mc Dv Dc)
    (hc : Cloned (wB.alloc (.cells #[.map mv, .map mc] 29)) wD wA.heap.size n1 n2 Dv Dc Dd bv bc) (hX : X = wD.alloc (.cells #[.map (some bv), .map (some bc)] 29)) :
    Two X wB.heap.size wD.heap.size wA.heap.size (wB.heap.size + 1) n1 n2 mv mc bv bc Dv Dc Dd ∧ Keep (fun _ => False) wA X := by
  have kD : Keep (fun _ => False) wB wD := keep_far ((Keep.refl (fun _ => False) wB).alloc _) hc.keep (fun _ e => e.elim)
  have kX : Keep (fun _ => False) wD X := by subst hX; exact (Keep.refl _ _).alloc _
  have kBX := keep_far kD kX (fun _ e => e.elim)
  have z1 : (wB.alloc (.cells #[.map mv, .map mc] 29)).heap.size = wB.heap.size + 1 := by simp
  refine ⟨⟨?_, by subst hX; exact at_alloc wD _, hb.v.keep kBX (fun _ _ e => e), hb.c.keep kBX (fun _ _ e => e), hc.v.keep kX (fun e => e), hc.c.keep kX (fun e => e), hc.keys, hc.size, hb.ints, fun kl hk => ?_⟩, keep_far hb.keep kBX (fun _ e => e.elim)⟩
  · have h1 := hc.keep.block wB.heap.size (by rw [z1]; omega) (fun e => e)
    rw [at_alloc] at h1
    exact (kX.block _ (lt_of_block h1) (fun e => e)).trans h1
  · obtain ⟨rs, hn, h1, h2⟩ := hc.runs kl hk
    rw [z1] at h2
    exact ⟨rs, hn, h1.keep kX (fun _ _ e => e), h2.keep kX (fun _ _ e => e)⟩

theorem zero32 (w : World) : (zeroValue 32).run Yba.prog w = .ok (.int .u64 0) w := by kernel_rfl
theorem zero39 (w : World) : (zeroValue 39).run Yba.prog w = .ok (.slice none 0 0) w := by kernel_rfl

set_option maxRecDepth 100000 in
set_option maxHeartbeats 1000000 in
theorem equal_small (w : World) (nv nc : Bool) (a1 a2 : Option Addr) (n1 n2 c1 c2 b1 o1 b2 o2 : Nat) (nm cm : Nat → ByteArray) (nn : Nat → Int) (ra : Nat → Option Addr) (rc : Nat → Nat) (rs : Nat → List (Int × Int)) (rb ro : Nat → Nat)
    (hV : VVin w a1 n1 nm nn b1 o1) (hC : CLin w a2 n2 cm ra rc rs b2 o2 rb ro) (hs : Small n1 n2 rs) :
    Calls Yba.prog 3 #[.bool nv, .bool nc, .slice a1 n1 c1, .slice a2 n2 c2] w fun e w' => e = .returned (.bool true) ∧ Below w.heap.size w w' := by
  have hq26 := fun (w : World) (r : Option Nat) => run_eql_map_nil (P := Yba.prog) w 26 9 32 r Yba.underlying26
  have hq27 := fun (w : World) (r : Option Nat) => run_eql_map_nil (P := Yba.prog) w 27 9 39 r Yba.underlying27
  obtain ⟨sm1, sm2, sm3⟩ := id hs
  go_enter Yba.func3, Yba.ntmps3
  go_wp2_with (go_at_call 7; refine (small_yes _ a1 a2 n1 n2 c1 c2 b2 o2 cm ra rc rs rb ro hC hs).mono ?_)
  rintro e wA ⟨rfl, kA⟩
  have hV1 := hV.keep kA (fun _ _ e => e)
  have hC1 := hC.keep kA (fun _ _ e => e)
  go_wp2_with (go_at_call 8; refine (build _ nv nc a1 a2 n1 n2 c1 c2 b1 o1 b2 o2 nm cm nn ra rc rs rb ro hV1 hC1 hs).mono ?_)
  rintro e wB ⟨mv, mc, Dv, Dc, rfl, hB⟩
  have kC : Keep (fun _ => False) wB (wB.alloc (.cells #[.map mv, .map mc] 29)) := (Keep.refl _ _).alloc _
  go_wp2_with (go_at_call 9; refine (clone_any _ wA.heap.size n1 n2 mv mc Dv Dc hs.2.1 (hB.v.keep kC (fun _ _ e => e)) (hB.c.keep kC (fun _ _ e => e)) (hB.runs.above kC (fun _ _ e => e.elim))).mono ?_)
  rintro e wD ⟨bv, bc, Dd, rfl, hCl⟩
  go_upto_region 5 with fail
  generalize hX : wD.alloc (.cells #[.map (some bv), .map (some bc)] 29) = X
  obtain ⟨hT, kX⟩ := two_of hB hCl hX.symm
  have kwX : Keep (fun _ => False) w X := keep_far kA kX (fun _ e => e.elim)
  have hXsz : wB.heap.size < X.heap.size ∧ wD.heap.size < X.heap.size := ⟨lt_of_block hT.cB, lt_of_block hT.dB⟩
  clear hX kX hCl kC hB hV1 hC1 kA
  generalize wB.heap.size = Cb at *
  generalize wD.heap.size = Db at *
  have c0 : X.cell? ⟨Cb, 0, none⟩ = some (.map mv) := cell_block hT.cB 0
  have c1 : X.cell? ⟨Cb, 1, none⟩ = some (.map mc) := cell_block hT.cB 1
  have d0 : X.cell? ⟨Db, 0, none⟩ = some (.map (some bv)) := cell_block hT.dB 0
  have d1 : X.cell? ⟨Db, 1, none⟩ = some (.map (some bc)) := cell_block hT.dB 1
  have Hsz : Hid (size Dd = size Dc) := hT.size
  go_wp2_with (first
    | (at_len; refine wpList_lenO _ rfl (.tmp 43) 26 rfl 9 32 Yba.underlying26 (some bv) _ _ rfl (Or.inr ⟨bv, rfl, hT.dv⟩) _ rfl ?_)
    | (at_len; refine wpList_lenO _ rfl (.tmp 46) 26 rfl 9 32 Yba.underlying26 mv _ _ rfl hT.cv _ rfl ?_)
    | (at_len; refine wpList_lenO _ rfl (.tmp 51) 27 rfl 9 39 Yba.underlying27 (some bc) _ _ rfl (Or.inr ⟨bc, rfl, hT.dc⟩) _ Hsz.out ?_)
    | (at_len; refine wpList_lenO _ rfl (.tmp 54) 27 rfl 9 39 Yba.underlying27 mc _ _ rfl hT.cc _ rfl ?_))
  clear c0 c1 d0 d1
  go_loopw [60] (fun i wr => ∃ k : Nat, k ≤ n1 ∧ i = .int .i64 k ∧ Keep (fun _ => False) X wr) (fun i _ => n1 - (intOf i).toNat)
  case atStart => exact ⟨0, Nat.zero_le _, rfl, Keep.refl _ _⟩
  case round =>
    obtain ⟨k, hk, rfl, hK⟩ := hrel
    by_cases hlt : k < n1
    · have hix := index22 hV.at_ hlt c1
      have hVr := hV.keep (keep_far kwX hK (fun _ e => e.elim)) (fun _ _ e => e)
      have v0 := hVr.c0 k hlt
      have v1 := hVr.c1 k hlt
      have hT1 := hT.keep hK
      have hT2 := fun o => hT.keep (hK.alloc o)
      have q0 := cell_al (show wr.cell? ⟨Cb, 0, none⟩ = some (.map mv) from cell_block hT1.cB 0)
      have q2 := cell_al (show wr.cell? ⟨Db, 0, none⟩ = some (.map (some bv)) from cell_block hT1.dB 0)
      have hkey := keyS (hV.sz k hlt)
      obtain ⟨x, hx⟩ := hT.ints (kS (nm k)) (isKey _)
      have HT := show Hid _ from hT
      clear hT hT1 hVr
      go_wp2_with (first
        | (at_lookup; refine wpList_look_okO _ rfl (.tmp 66) (.tmp 68) 26 rfl 9 32 lawS Yba.underlying26 (zero32 _) mv _ _ rfl (hT2 _).cv _ _ rfl hkey _ hx _ rfl ?_)
        | (at_lookup; refine wpList_look_okO _ rfl (.tmp 74) (.tmp 76) 26 rfl 9 32 lawS Yba.underlying26 (zero32 _) (some bv) _ _ rfl (Or.inr ⟨bv, rfl, (hT2 _).dv⟩) _ _ rfl hkey _ hx _ rfl ?_))
      go_roundw
      case rel => exact ⟨k + 1, by omega, by go_num, hK.alloc _⟩
      case measure => simp [intOf]; omega
    · go_wp2
      clear hlt hk
      go_loopw [91] (fun i wr => ∃ k : Nat, k ≤ n2 ∧ i = .int .i64 k ∧ Keep (fun _ => False) X wr) (fun i _ => n2 - (intOf i).toNat)
      case atStart => exact ⟨0, Nat.zero_le _, rfl, hK⟩
      case round =>
        clear hK
        obtain ⟨k2, hk, rfl, hK⟩ := hrel
        by_cases hlt : k2 < n2
        · have hix := index23 hC.at_ hlt c2
          have hCr := hC.keep (keep_far kwX hK (fun _ e => e.elim)) (fun _ _ e => e)
          have v0 := hCr.c0 k2 hlt
          have v1 := hCr.c1 k2 hlt
          have hT1 := hT.keep hK
          have hT2 := fun o => hT.keep (hK.alloc o)
          have q1 := cell_al (show wr.cell? ⟨Cb, 1, none⟩ = some (.map mc) from cell_block hT1.cB 1)
          have q3 := cell_al (show wr.cell? ⟨Db, 1, none⟩ = some (.map (some bc)) from cell_block hT1.dB 1)
          have hkey := keyS (hC.sz k2 hlt)
          have hkeys := hT.keys (kS (cm k2))
          obtain ⟨z1, hz1⟩ : ∃ z1, look Dc (kS (cm k2)) (.slice none 0 0) = z1 := ⟨_, rfl⟩
          obtain ⟨z2, hz2⟩ : ∃ z2, look Dd (kS (cm k2)) (.slice none 0 0) = z2 := ⟨_, rfl⟩
          have hruns := fun o => (hT2 o).runs (kS (cm k2)) (isKey _)
          rw [hz1, hz2] at hruns
          have HT := show Hid _ from hT
          have HR := show Hid _ from hruns
          clear hT hT1 hCr hruns
          go_wp2_with (first
            | (at_lookup; refine wpList_look_okO _ rfl (.tmp 97) (.tmp 99) 27 rfl 9 39 lawS Yba.underlying27 (zero39 _) mc _ _ rfl (hT2 _).cc _ _ rfl hkey _ hz1 _ rfl ?_)
            | (at_lookup; refine wpList_look_okO _ rfl (.tmp 105) (.tmp 107) 27 rfl 9 39 lawS Yba.underlying27 (zero39 _) (some bc) _ _ rfl (Or.inr ⟨bc, rfl, (hT2 _).dc⟩) _ _ rfl hkey _ hz2 _ hkeys ?_))
          obtain ⟨rr, hrn, h1, h2⟩ := HR.out (.cells #[Value.string (cm k2), Value.slice (ra k2) (rs k2).length (rc k2)] 38)
          refine (sequal _ _ _ z1 z2 rr h1 h2 hrn).mono ?_
          rintro e w1 ⟨rfl, q, rfl⟩
          go_wp2
          go_roundw
          case rel => exact ⟨k2 + 1, by omega, by go_num, (hK.alloc _).drewN q⟩
          case measure => simp [intOf]; omega
        · go_wp2
          go_ret
          exact ⟨rfl, (keep_far kwX hK (fun _ e => e.elim)).below (fun _ e => e.elim) (Nat.le_refl _)⟩

theorem equal_big (w : World) (nv nc : Bool) (a1 a2 : Option Addr) (n1 n2 c1 c2 b2 o2 : Nat) (cm : Nat → ByteArray) (ra : Nat → Option Addr) (rc : Nat → Nat) (rs : Nat → List (Int × Int)) (rb ro : Nat → Nat)
    (hC : CLin w a2 n2 cm ra rc rs b2 o2 rb ro) (hs : ¬ Small n1 n2 rs) :
    Calls Yba.prog 3 #[.bool nv, .bool nc, .slice a1 n1 c1, .slice a2 n2 c2] w fun e w' => e = .returned (.bool true) ∧ Below w.heap.size w w' := by
  go_enter Yba.func3, Yba.ntmps3
  go_wp2_with (go_at_call 7; refine (small_no _ a1 a2 n1 n2 c1 c2 b2 o2 cm ra rc rs rb ro hC hs).mono ?_)
  rintro e wA ⟨rfl, kA⟩
  go_wp2
  go_ret
  exact ⟨rfl, kA.below (fun _ e => e.elim) (Nat.le_refl _)⟩

theorem equal (w : World) (nv nc : Bool) (a1 a2 : Option Addr) (n1 n2 c1 c2 b1 o1 b2 o2 : Nat) (nm cm : Nat → ByteArray) (nn : Nat → Int) (ra : Nat → Option Addr) (rc : Nat → Nat) (rs : Nat → List (Int × Int)) (rb ro : Nat → Nat)
    (hV : VVin w a1 n1 nm nn b1 o1) (hC : CLin w a2 n2 cm ra rc rs b2 o2 rb ro) :
    Calls Yba.prog 3 #[.bool nv, .bool nc, .slice a1 n1 c1, .slice a2 n2 c2] w fun e w' => e = .returned (.bool true) ∧ Below w.heap.size w w' := by
  by_cases hs : Small n1 n2 rs
  · exact equal_small w nv nc a1 a2 n1 n2 c1 c2 b1 o1 b2 o2 nm cm nn ra rc rs rb ro hV hC hs
  · exact equal_big w nv nc a1 a2 n1 n2 c1 c2 b2 o2 cm ra rc rs rb ro hC hs

end Go.Proofs.Ybulkcxce.Ctx
