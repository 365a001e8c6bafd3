import Derived.Test.YbulkcxduDoorValue
import Derived.Test.YbulkcxduDoorCards
import Derived.Test.YbulkcxduDoorTie
import Derived.ProofKit
import Derived.LaidMore
import Derived.OpenShut
import Derived.ShutString
import Derived.ChangeOld
import Derived.Below
import Derived.Carry
import Derived.Stop.Joined
import Derived.SevenTiedAt
namespace Go.Proofs.YbulkcxduDoor.lawS4934BValue
open Go.ChangeShapes Go.WideShapes Go.ChangeAt Go.RowKit
open Go.ChangeMaps (open_string shut_string)
set_option linter.unusedVariables false

theorem own : ownKnob Ybad.prog.godebug = none := by kernel_rfl
theorem laidOut : laidOutB Ybad.prog = true := by kernel_rfl

theorem spot_none {w : World} {x : Addr} {v : Value} (h : w.cell? x = some v) : x = ⟨x.block, x.off, none⟩ ∧ x.block < w.heap.size := by
  obtain ⟨b, off, spot⟩ := x
  unfold World.cell? at h
  split at h
  · rename_i c t fz hb
    refine ⟨?_, lt_of_block hb⟩
    cases spot
    · rfl
    · simp at h
  · cases h
theorem add_none {x : Addr} (e : x = ⟨x.block, x.off, none⟩) (i : Nat) : x.add i = ⟨x.block, x.off + i, none⟩ := by
  unfold Addr.add
  split
  · rename_i hi0
    rw [hi0]
    exact e
  · rfl

theorem bytes_in {H : Type} {enc : TypeId × Value → H} {W : World} {base : Nat} {sp : Nat → Bool} {held : Bool} {fuel : Nat} {a : Option Addr} {n c : Nat} {x : DataW H × List MemPlace} (h : DataW.trod enc Ybad.prog W base sp held fuel 22 [.slice a n c] = some x) :
    ∃ (zs : List Int) (b off : Nat), zs.length = n ∧ By W a zs b off ∧ (a = none → zs.length = 0 ∧ c = 0) := by
  rcases open_ints Ybad.underlying22 Ybad.underlying5 (by kernel_rfl) h with ⟨hcs, _⟩ | ⟨x, l, cap, zs, hcs, _, hl, hm, hz, _, hcell, hwz⟩
  · simp at hcs
    obtain ⟨rfl, rfl, rfl⟩ := hcs
    exact ⟨[], 0, 0, rfl, ⟨fun h => absurd h (by simp), fun h => absurd h (by simp), fun j v h => by simp at h, fun z h => by simp at h⟩, fun _ => ⟨rfl, rfl⟩⟩
  · simp at hcs
    obtain ⟨rfl, rfl, rfl⟩ := hcs
    have hnz : n ≤ zs.length := by rw [hz]; split <;> omega
    refine ⟨zs.take n, x.block, x.off, by simp; omega, ⟨fun h0 => ?_, fun h0 => ?_, fun j v hj => ?_, fun z hzm => ?_⟩, fun h => by cases h⟩
    · simp at h0
      exact congrArg some (spot_none (by simpa [Addr.add] using hcell 0 (by omega))).1
    · simp at h0
      exact (spot_none (by simpa [Addr.add] using hcell 0 (by omega))).2
    · have hjn : j < n := by
        have := (List.getElem?_eq_some_iff.1 hj).1
        simp at this
        omega
      have e0 := (spot_none (by simpa [Addr.add] using hcell 0 (by omega))).1
      have := hcell j (by omega)
      rw [add_none e0] at this
      rw [List.getElem?_take_of_lt hjn] at hj
      rw [this, List.getD_eq_getElem?_getD, hj]
      rfl
    · have := hwz z (List.mem_of_mem_take hzm)
      simp [Lit.wf, IntKind.min, IntKind.max, IntKind.signed, IntKind.bits] at this
      omega

/-- The door's own heap meets the condition. -/
theorem door_met (os : Os) (args : Array Value) : laidMetH Ybad.prog Rows.lawS4934BValueRow.laid ((World.doorLaid Ybad.prog 400 os).forCall (fun _ _ => 0) ⟨#[], args, []⟩).memory :=
  laidMetH_of_parts3 (fuel := 8) (laidMet_of_run' 8 (by kernel_rfl) (by kernel_rfl)) (by kernel_rfl) (by kernel_rfl)

/-- What the condition gives the walk: the table of the powers of ten. -/
theorem tab_of {W : World} (h : laidMetH Ybad.prog Rows.lawS4934BValueRow.laid W) : Tab W := by
  rw [MakeChecks.laidMetH_plain _ _ _ (by kernel_rfl)] at h
  obtain ⟨ps, ⟨g0, t0, cs0, f0, p0, q0, hg0, ht0, hv0, hd0, ⟨g1, t1, cs1, f1, p1, q1, hg1, ht1, hv1, hd1, ⟨g2, t2, cs2, f2, p2, q2, hg2, ht2, hv2, hd2, _, _⟩, _⟩, _⟩, _, _⟩ := h
  have hg : Ybad.prog.globalNamed pow10Name = some 0 := by kernel_rfl
  obtain rfl := Option.some.inj (hg.symm.trans hg2)
  have ht : (Ybad.prog.globals[0]?).map (·.type) = some 67 := by kernel_rfl
  obtain rfl := Option.some.inj (ht.symm.trans ht2)
  have hl : (Rows.laid_internal_strconv_uint64pow10 : DataW Unit) = Lib.tabData .u64 Lib.pow10Tab := by kernel_rfl
  rw [hl] at hd2
  have hc := Lib.cells_of_tab (n := 20) (e := 28) (by kernel_rfl) (by kernel_rfl) (by kernel_rfl) (by kernel_rfl) hd2
  show W.var? Ybad.prog pow10Name = _
  exact hv2.trans (by rw [← hc])

set_option maxRecDepth 100000 in
theorem walk (w : World) (a : Option Addr) (zs : List Int) (c b off : Nat) (sel : Bool) (u : Nat) (k : Int) (word : ByteArray) (hB : By w a zs b off) (hnil : a = none → zs.length = 0 ∧ c = 0) (hu : u < 4294967296) (hk0 : 0 ≤ k) (hk1 : k ≤ 4294967295) (hT : Tab w) :
    Calls Ybad.prog 3 #[.slice a zs.length c, .int .u32 u, .bool sel, .int .u32 k, .string word] w fun e w' => e = .returned (.bool true) ∧ Below w.heap.size w w' := by
  by_cases hl : zs.length ≤ 1024
  · exact value_small w a zs c b off sel u k word hB hl hnil hu hk0 hk1 hT
  · have hl' : (1024 : Int) < (zs.length : Int) := by omega
    clear hT
    go_enter Ybad.func3, Ybad.ntmps3
    go_wp2
    go_ret
    exact ⟨rfl, (Below.refl _ _).alloc (Nat.le_refl _) _⟩

set_option maxRecDepth 100000 in
theorem lifted (os : Os) (started : os.Started) (H : Type) (enc : TypeId × Value → H) :
    ReturnsInHanded {} Ybad.checked os 3 .any (fun w args => (Rows.lawS4934BValueSpec.pre enc Ybad.prog Ybad.f3 [] false w args ∧ laidMetH Ybad.prog Rows.lawS4934BValueRow.laid w) ∧ sizedMet enc Ybad.prog Ybad.f3 (OpenSpec.ofChange Rows.lawS4934BValueSpec) false w args)
      (Rows.lawS4934BValueSpec.post enc Ybad.prog Ybad.f3 false true false false) := by
  refine returnsInHanded_of_change_and (C := Ybad.checked) (X := fun w _ => laidMetH Ybad.prog Rows.lawS4934BValueRow.laid w) (fun _ _ _ hh h => h.of_heap hh) own started (by kernel_rfl) Ybad.func3
    (ChangeSpec.witness_shaped (enc := enc) (C := Ybad.checked) (os := os) (X := fun w _ => laidMetH Ybad.prog Rows.lawS4934BValueRow.laid w) false (World.doorLaid Ybad.prog 400 os) #[.slice none 0 0, .int .u32 0, .bool false, .int .u32 0, .string ByteArray.empty] 8 rfl (World.shaped_of_RefB (by kernel_rfl) (by kernel_rfl)) (by kernel_rfl) (by kernel_rfl) (by kernel_rfl) (door_met os _)) ?_
  intro W base args ds gs before hval0 hW _ _ hL _
  have hval : ∀ (j : Nat) t v, Ybad.f3.params[j]? = some t → args[j]? = some v → Value.okWide Ybad.prog W .any base t v := hval0
  have hW' := hW
  obtain ⟨p, q, hA0, hV, rfl, hfz, hnd⟩ := hW
  have hA : DataW.TrodAll enc Ybad.prog W 0 (fun _ => true) true Ybad.f3.params.toList args.toList ds p := hA0
  rw [Ybad.params3] at hA hval
  obtain ⟨v0, vs0, d0, ds0, p0, q0, hargs, rfl, rfl, h0, r0⟩ := trodAll_cons hA
  obtain ⟨v1, vs1, d1, ds1, p1, q1, rfl, rfl, rfl, h1, r1⟩ := trodAll_cons r0
  obtain ⟨v2, vs2, d2, ds2, p2, q2, rfl, rfl, rfl, h2, r2⟩ := trodAll_cons r1
  obtain ⟨v3, vs3, d3, ds3, p3, q3, rfl, rfl, rfl, h3, r3⟩ := trodAll_cons r2
  obtain ⟨v4, vs4, d4, ds4, p4, q4, rfl, rfl, rfl, h4, r4⟩ := trodAll_cons r3
  obtain ⟨rfl, rfl, rfl⟩ := trodAll_nil r4
  obtain rfl : args = #[v0, v1, v2, v3, v4] := by cases args; simp_all
  obtain ⟨rfl, rfl⟩ := trodVars_none hV
  obtain ⟨a0, len0, cap0, rfl⟩ := okWide_slice Ybad.underlying22 (hval 0 22 v0 rfl rfl)
  have k0 := h0
  have lt0 : ∀ x ∈ p0, x.block < W.heap.size := by obtain ⟨m, hm⟩ := k0; exact DataW.trod_lt m _ _ _ hm
  obtain ⟨u, rfl, rfl, rfl, wU⟩ := open_int Ybad.underlying23 (hval 1 23 v1 rfl rfl) h1
  obtain ⟨sel, rfl, rfl, rfl⟩ := open_bool Ybad.underlying4 (hval 2 4 v2 rfl rfl) h2
  obtain ⟨k, rfl, rfl, rfl, wK⟩ := open_int Ybad.underlying23 (hval 3 23 v3 rfl rfl) h3
  obtain ⟨word, rfl, rfl, rfl, wW⟩ := open_string Ybad.underlying9 (hval 4 9 v4 rfl rfl) h4
  obtain ⟨zs, b, off, rfl, hB, hnil⟩ : ∃ (zs : List Int) (b off : Nat), zs.length = len0 ∧ By W a0 zs b off ∧ (a0 = none → zs.length = 0 ∧ cap0 = 0) := by
    obtain ⟨fuel, hf⟩ := h0
    exact bytes_in hf
  obtain ⟨u0, u1⟩ : 0 ≤ u ∧ u ≤ 4294967295 := by
    simp [Lit.wf, IntKind.min, IntKind.max, IntKind.signed, IntKind.bits] at wU
    omega
  obtain ⟨s0, s1⟩ : 0 ≤ k ∧ k ≤ 4294967295 := by
    simp [Lit.wf, IntKind.min, IntKind.max, IntKind.signed, IntKind.bits] at wK
    omega
  obtain ⟨un, rfl⟩ : ∃ un : Nat, u = un := ⟨u.toNat, by omega⟩
  have hT := tab_of hL
  clear hA0 hval0
  refine (walk W a0 zs cap0 b off sel un k word hB hnil (by omega) s0 s1 hT).mono fun e W' ⟨he, bel⟩ => ?_
  subst he
  exact ⟨_, rfl, _, _, _, [], _, [], hW', trodAll_mk1 (shut_bool Ybad.underlying4 _), (trodAll_cons_mk (Below.trod laidOut (by kernel_rfl) (of_decide_eq_true (by kernel_rfl)) k0 bel lt0) (trodAll_cons_mk (shut_int Ybad.underlying23 wU) (trodAll_cons_mk (shut_bool Ybad.underlying4 _) (trodAll_cons_mk (shut_int Ybad.underlying23 wK) (trodAll_cons_mk (shut_string Ybad.underlying9 wW) trodAll_mk0))))), rfl, bel.frame _, fun h => by cases h⟩

theorem over : Rows.LawS4934BValueSaid :=
  OpenClaim.holds_of_wide 3 Ybad.f3 rfl rfl rfl rfl rfl rfl rfl ⟨rfl, rfl, rfl, rfl, rfl⟩ rfl rfl rfl rfl rfl (by kernel_rfl) Ybad.func3 (by kernel_rfl)
    (of_decide_eq_true (by kernel_rfl)) (by unfold Func.isWrapper; first | (rw [if_pos (by decide +kernel)]; kernel_rfl) | (rw [if_neg (by decide +kernel)]; exact ⟨rfl, rfl⟩))
    (fun os started H enc _ => lifted os started H enc)

theorem proved : Rows.LawS4934BValueCardSaid :=
  Claim7.holds_tied_plain_at .later [] [.data, .data, .data] true (true, "82566576dc57a58215c56797f0c2e9c22f34fc9f8008c44ce0149a89fef56c07") false
    over (fun _ h => by cases h) (by kernel_rfl) (fun _ h => by cases h) lawS4934BValue_row_tie rfl ⟨rfl, rfl⟩ (by kernel_rfl) rfl
    (fun f fn hf hfn => by
      obtain rfl : f = 3 := Option.some.inj ((show Ybad.prog.funcNamed Rows.lawS4934BValueRow.func = some 3 by kernel_rfl).symm.trans hf) |>.symm
      obtain rfl : fn = Ybad.f3 := (Option.some.inj (Ybad.func3.symm.trans hfn)).symm
      exact ⟨by kernel_rfl, fun j t ht => by
        rw [Ybad.params3] at ht
        have hm : t ∈ [22, 23, 4, 23, 9] := by simpa using Array.mem_of_getElem? ht
        have hall : ([22, 23, 4, 23, 9].all fun u => !Ybad.prog.wantsStandIn u) = true := by kernel_rfl
        exact (show Ybad.prog.wantsStandIn t = false by simpa using List.all_eq_true.1 hall t hm)⟩)
    (by kernel_rfl)
#print axioms proved
end Go.Proofs.YbulkcxduDoor.lawS4934BValue
