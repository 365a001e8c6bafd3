import Derived.Test.YbulkcxceAp
import Derived.Test.YbulkcxceOpen
import Derived.WalkKit
import Derived.ProofKit
import Derived.ShutString
import Derived.ChangeOld
import Derived.Below
import Derived.Carry
import Derived.OpenShut
namespace Go.Proofs.Ybulkcxce.lawS4931AApart
open Go.ChangeShapes Go.WideShapes Go.ChangeAt Go.RowKit
open Go.ChangeMaps (open_string shut_string)
set_option linter.unusedVariables false

theorem own : ownKnob Yba.prog.godebug = none := by kernel_rfl
theorem laidOut : laidOutB Yba.prog = true := by kernel_rfl

set_option maxRecDepth 100000 in
theorem lifted (os : Os) (started : os.Started) (H : Type) (enc : TypeId × Value → H) :
    ReturnsInHanded {} Yba.checked os 4 .any (Rows.lawS4931AApartSpec.pre6 enc Yba.prog Yba.f4 Rows.lawS4931AApartRow.domain false) (Rows.lawS4931AApartSpec.post enc Yba.prog Yba.f4 false true false false) := by
  refine returnsInHanded_of_change (C := Yba.checked) own started (by kernel_rfl) Yba.func4
    (ChangeSpec.witness6 (enc := enc) (C := Yba.checked) false ⟨#[], #[.slice none 0 0, .slice none 0 0], []⟩ 8 (by kernel_rfl) (by kernel_rfl) (by kernel_rfl) (by kernel_rfl)) ?_
  intro W base args ds gs before hval0 hW hcnd _
  have hval : ∀ (j : Nat) t v, Yba.f4.params[j]? = some t → args[j]? = some v → Value.okWide Yba.prog W .any base t v := hval0
  have hW' := hW
  obtain ⟨p, q, hA0, hV, rfl, hfz, hnd⟩ := hW
  have hA : DataW.TrodAll enc Yba.prog W 0 (fun _ => true) true Yba.f4.params.toList args.toList ds p := hA0
  rw [Yba.params4] at hA hval
  obtain ⟨v2, vs2, d2, ds2, p2, q2, hargs, rfl, rfl, h2, r2⟩ := trodAll_cons hA
  obtain ⟨v3, vs3, d3, ds3, p3, q3, rfl, rfl, rfl, h3, r3⟩ := trodAll_cons r2
  obtain ⟨rfl, rfl, rfl⟩ := trodAll_nil r3
  obtain rfl : args = #[v2, v3] := by cases args; simp_all
  obtain ⟨rfl, rfl⟩ := trodVars_none hV
  obtain ⟨a2, len2, cap2, rfl⟩ := okWide_slice Yba.underlying22 (hval 0 22 v2 rfl rfl)
  have k2 := h2
  have lt2 : ∀ x ∈ p2, x.block < W.heap.size := by obtain ⟨m, hm⟩ := k2; exact DataW.trod_lt m _ _ _ hm
  obtain ⟨a3, len3, cap3, rfl⟩ := okWide_slice Yba.underlying23 (hval 1 23 v3 rfl rfl)
  have k3 := h3
  have lt3 : ∀ x ∈ p3, x.block < W.heap.size := by obtain ⟨m, hm⟩ := k3; exact DataW.trod_lt m _ _ _ hm
  obtain ⟨nm, nn, b1, o1, w2⟩ : ∃ nm nn b off, Ctx.VVin W a2 len2 nm nn b off := by
    obtain ⟨fuel, hf⟩ := h2
    exact Ctx.vv_in hf
  obtain ⟨cm, ra, rc, rs, b2, o2, rb, ro, w3⟩ : ∃ cm ra rc rs b off rb ro, Ctx.CLin W a3 len3 cm ra rc rs b off rb ro := by
    obtain ⟨fuel, hf⟩ := h3
    exact Ctx.cl_in hf
  clear hA0 hval0
  refine (Ctx.apart W a2 a3 len2 len3 cap2 cap3 b1 o1 b2 o2 nm cm nn ra rc rs rb ro w2 w3).mono fun e W' ⟨he, bel⟩ => ?_
  subst he
  exact ⟨_, rfl, _, _, _, [], _, [], hW', trodAll_mk1 (shut_bool Yba.underlying4 _), (trodAll_cons_mk (Below.trod laidOut (by kernel_rfl) (of_decide_eq_true (by kernel_rfl)) k2 bel lt2) (trodAll_cons_mk (Below.trod laidOut (by kernel_rfl) (of_decide_eq_true (by kernel_rfl)) k3 bel lt3) trodAll_mk0)), rfl, bel.frame _, fun h => by cases h⟩

theorem over : Rows.lawS4931AApartRow.holds Yba.pinned (OpenSpec.ofChange Rows.lawS4931AApartSpec) :=
  OpenClaim.holds_of_wide 4 Yba.f4 rfl rfl rfl rfl rfl rfl rfl ⟨rfl, rfl, rfl, rfl, rfl⟩ rfl rfl rfl rfl rfl (by kernel_rfl) Yba.func4 (by kernel_rfl)
    (of_decide_eq_true (by kernel_rfl)) (by unfold Func.isWrapper; first | (rw [if_pos (by decide +kernel)]; kernel_rfl) | (rw [if_neg (by decide +kernel)]; exact ⟨rfl, rfl⟩))
    (fun os started H enc _ => lifted os started H enc)

theorem proved : Rows.LawS4931AApartSaid := over
#print axioms proved
end Go.Proofs.Ybulkcxce.lawS4931AApart
