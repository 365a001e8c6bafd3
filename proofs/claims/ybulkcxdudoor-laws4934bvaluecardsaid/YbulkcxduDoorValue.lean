import Derived.Test.YbulkcxduDoorBa
namespace Go.Proofs.YbulkcxduDoor
open Go Go.RowKit
set_option linter.unusedVariables false

set_option maxRecDepth 100000 in
set_option maxHeartbeats 400000 in
theorem value_small (w : World) (a : Option Addr) (zs : List Int) (c b off : Nat) (sel : Bool) (u : Nat) (k : Int) (word : ByteArray) (hB : By w a zs b off) (hn : zs.length ≤ 1024) (hnil : a = none → zs.length = 0 ∧ c = 0) (hu : u < 4294967296) (hk0 : 0 ≤ k) (hk1 : k ≤ 4294967295) (hT : Tab w) :
    Calls Ybad.prog 3 #[.slice a zs.length c, .int .u32 u, .bool sel, .int .u32 k, .string word] w fun e w' => e = .returned (.bool true) ∧ Below w.heap.size w w' := by
  obtain ⟨xs, hz38, hxs⟩ := zero38
  have hn' : (zs.length : Int) ≤ 1024 := by omega
  have hu' : (u : Int) ≤ 4294967295 := by omega
  have HT := show Hid _ from hT
  clear hT
  rcases Bool.eq_false_or_eq_true sel with hsel | hsel
  all_goals
    go_enter Ybad.func3, Ybad.ntmps3
    go_wp2_with (go_at_call 7; refine (idKey _ k word (.func 6) #[] #[.pointer (some ⟨w.heap.size + 1, 0, none⟩), .pointer (some ⟨w.heap.size, 0, none⟩)]).mono ?_)
    rintro e w1 ⟨fv, rfl, hfv, k1⟩
    have s0 := sel_cell k1
    have s1 := lt_of_cell s0
    unfold keyCells form
    go_wp2_with fail
    generalize hX : (w1.alloc (.cells _ 45)).alloc (.cells _ 38) = X
    have hBef : BefV w X w1.heap.size (w1.heap.size + 1) fv sel u (bits BinOp.xor IntKind.u32 IntKind.u32.max u) := by
      rw [hsel]
      exact befv_start k1 hfv rfl (by simp [hxs]) (by simp [hxs]) _ hX.symm
    clear hX hfv k1 hz38 s0 s1
    generalize hnst : bits BinOp.xor IntKind.u32 IntKind.u32.max u = nst at *
    generalize w1.heap.size = R0 at *
    go_cut [15] from 57 to 61 (fun s15 wx => wx.ownsRow X.heap.size 5 1 s15 (zs.length + (Lib.decDigits u).length) (bys (zs ++ dgs u)) ∧ AftV w wx (R0 + 1) sel u nst)
    case first =>
      have q1 : X.drew.cell? ⟨R0, 2, none⟩ = some (.func (.func 14) #[] #[.pointer (some ⟨fv, 0, none⟩)]) := hBef.inf
      have hBd := hB.keep hBef.keep.drew
      have kd : Keep (fun _ => False) X X.drew := (Keep.refl _ _).drew
      go_region_with (first
        | (go_at_call 8; refine (clone _ a zs c b off hBd hn hnil).mono ?_; rintro e w2 ⟨v, rfl, hv, k2⟩; have hB2 := hBef.step (kd.trans k2); have q2 := hB2.inf; have hle : X.heap.size ≤ w2.heap.size := k2.size)
        | (go_at_call 14; refine (value14 _ (R0 + 1) fv (w.heap.size + 1) w.heap.size X.heap.size zs.length u 0 sel v (bys zs) hv hle hn (hB2.tab HT.out) hu hB2.fvc hB2.entc hB2.n1 hB2.n2 hB2.calls (cell_block hB2.selb 0) (by omega) (by omega) (by omega)).mono ?_; rintro e w3 ⟨v', rfl, r1, r2⟩))
      all_goals
        go_wp2
        go_meet
        case rel => exact ⟨by rw [bys_dgs] at r1; exact r1, hBef.after (kd.trans k2) r2⟩
    case rest =>
      obtain ⟨hO, hA⟩ := hcut
      have hBc := hB.keep hA.keep
      have HO := show Hid _ from hO
      clear hO
      go_wp2_with (first
        | (go_at_call 8; refine (clone _ a zs c b off hBc hn hnil).mono ?_; rintro e w2 ⟨v, rfl, hv, k2⟩; have hv2 := show Hid _ from hv; clear hv)
        | (go_at_call 9; refine (dec wc.heap.size zs.length u hu v (bys zs) _ hv2.out k2.size hn).mono ?_; rintro e w3 ⟨v', rfl, r1, r2⟩; have k3 : Keep (fun _ => False) wc w3 := keep_of2 k2 r2; have g1 := str_own (hown_keep HO.out k3 (fun _ _ _ _ _ e => e)); have g2 : (convert 22 9 v').run Ybad.prog w3 = .ok (.string (strOfNums (zs ++ dgs u))) w3 := str_own (by rw [bys_dgs] at r1; exact r1); have hA3 := hA.step k3; have p1 := hA3.selc; have p2 := hA3.calls; have p3 := hA3.uid; have p4 := hA3.gid; clear r1 r2 HO hv2; rw [hsel] at p1 p3 p4; simp only [if_true, if_false, Bool.false_eq_true] at p3 p4)
        | (go_at_call 10; refine (equal10 _ _ v' (strOfNums (zs ++ dgs u)) g1 g2).mono ?_))
      rintro e w4 ⟨rfl, rfl⟩
      go_wp2
      go_ret
      exact ⟨rfl, hA3.keep.below (fun _ e => e.elim) (Nat.le_refl _)⟩

end Go.Proofs.YbulkcxduDoor
