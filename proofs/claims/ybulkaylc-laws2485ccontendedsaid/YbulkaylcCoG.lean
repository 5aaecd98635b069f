import Derived.Test.YbulkaylcCoF
import Derived.WalkKit
import Derived.ProofKit
import Derived.OpenShut
import Derived.ShutString
import Derived.ChangeOld
import Derived.Below
namespace Go.Proofs.Ybulkaylc
namespace CoLaw
open Go.ChangeShapes Go.WideShapes Go.ChangeAt Go.RowKit
open Go.ChangeMaps (open_string shut_string)
set_option linter.unusedVariables false

theorem own : ownKnob Yba.prog.godebug = none := by kernel_rfl
theorem laidOut : laidOutB Yba.prog = true := by kernel_rfl

theorem walk (a0 a1 a2 : Int) (w : World) (w0 : (Lit.int .u8 a0).wf = true) (w1 : (Lit.int .u8 a1).wf = true) (w2 : (Lit.int .u8 a2).wf = true) :
    Calls Yba.prog 8 #[.int .u8 a0, .int .u8 a1, .int .u8 a2] w fun e w' => e = .returned (.bool true) ∧ Below w.heap.size w w' := by
  have h0 := bounds_u8 w0
  have h1 := bounds_u8 w1
  have h2 := bounds_u8 w2
  have m0 : 0 ≤ a0 % 64 := Int.emod_nonneg _ (by omega)
  have m1 : a0 % 64 < 64 := Int.emod_lt_of_pos _ (by omega)
  obtain ⟨m, hm⟩ : ∃ m : Nat, a0 % 64 = (m : Int) := ⟨(a0 % 64).toNat, by omega⟩
  have k0 : 0 ≤ a1 % ((m : Int) + 1) := Int.emod_nonneg _ (by omega)
  have k1 : a1 % ((m : Int) + 1) < (m : Int) + 1 := Int.emod_lt_of_pos _ (by omega)
  obtain ⟨o, ho⟩ : ∃ r : Nat, a1 % ((m : Int) + 1) = (r : Int) := ⟨(a1 % ((m : Int) + 1)).toNat, by omega⟩
  have l0 : 0 ≤ a2 % ((m : Int) + 1) := Int.emod_nonneg _ (by omega)
  have l1 : a2 % ((m : Int) + 1) < (m : Int) + 1 := Int.emod_lt_of_pos _ (by omega)
  obtain ⟨r, hr⟩ : ∃ r : Nat, a2 % ((m : Int) + 1) = (r : Int) := ⟨(a2 % ((m : Int) + 1)).toNat, by omega⟩
  exact Co.law_main a0 a1 a2 m o r w h0.1 h0.2 hm (by omega) h1.1 h1.2 ho (by omega) h2.1 h2.2 hr (by omega)

set_option maxRecDepth 100000 in
theorem lifted (os : Os) (started : os.Started) (H : Type) (enc : TypeId × Value → H) :
    ReturnsInHanded {} Yba.checked os 8 .any (Rows.lawS2485CContendedSpec.pre6 enc Yba.prog Yba.f8 Rows.lawS2485CContendedRow.domain false) (Rows.lawS2485CContendedSpec.post enc Yba.prog Yba.f8 false true false false) := by
  refine returnsInHanded_of_change (C := Yba.checked) own started (by kernel_rfl) Yba.func8
    (ChangeSpec.witness6 (enc := enc) (C := Yba.checked) false ⟨#[], #[.int .u8 0, .int .u8 0, .int .u8 0], []⟩ 8 (by kernel_rfl) (by kernel_rfl) (by kernel_rfl) (by kernel_rfl)) ?_
  intro W base args ds gs before hval0 hW hcnd _
  have hval : ∀ (j : Nat) t v, Yba.f8.params[j]? = some t → args[j]? = some v → Value.okWide Yba.prog W .any base t v := hval0
  have hW' := hW
  obtain ⟨p, q, hA0, hV, rfl, hfz, hnd⟩ := hW
  have hA : DataW.TrodAll enc Yba.prog W 0 (fun _ => true) true Yba.f8.params.toList args.toList ds p := hA0
  rw [Yba.params8] at hA hval
  obtain ⟨v0, vs0, d0, ds0, p0, q0, hargs, rfl, rfl, h0, r0⟩ := trodAll_cons hA
  obtain ⟨v1, vs1, d1, ds1, p1, q1, rfl, rfl, rfl, h1, r1⟩ := trodAll_cons r0
  obtain ⟨v2, vs2, d2, ds2, p2, q2, rfl, rfl, rfl, h2, r2⟩ := trodAll_cons r1
  obtain ⟨rfl, rfl, rfl⟩ := trodAll_nil r2
  obtain rfl : args = #[v0, v1, v2] := by cases args; simp_all
  obtain ⟨rfl, rfl⟩ := trodVars_none hV
  obtain ⟨a0, rfl, rfl, rfl, w0⟩ := open_int Yba.underlying5 (hval 0 5 v0 rfl rfl) h0
  obtain ⟨a1, rfl, rfl, rfl, w1⟩ := open_int Yba.underlying5 (hval 1 5 v1 rfl rfl) h1
  obtain ⟨a2, rfl, rfl, rfl, w2⟩ := open_int Yba.underlying5 (hval 2 5 v2 rfl rfl) h2
  clear hA0 hval0
  refine (walk a0 a1 a2 W w0 w1 w2).mono fun e W' ⟨he, bel⟩ => ?_
  subst he
  exact ⟨_, rfl, _, _, _, [], _, [], hW', trodAll_mk1 (shut_bool Yba.underlying4 _), (trodAll_cons_mk (shut_int Yba.underlying5 w0) (trodAll_cons_mk (shut_int Yba.underlying5 w1) (trodAll_cons_mk (shut_int Yba.underlying5 w2) trodAll_mk0))), rfl, bel.frame _, fun h => by cases h⟩

theorem over : Rows.lawS2485CContendedRow.holds Yba.pinned (OpenSpec.ofChange Rows.lawS2485CContendedSpec) :=
  OpenClaim.holds_of_wide 8 Yba.f8 rfl rfl rfl rfl rfl rfl rfl ⟨rfl, rfl, rfl, rfl, rfl⟩ rfl rfl rfl rfl rfl (by kernel_rfl) Yba.func8 (by kernel_rfl)
    (of_decide_eq_true (by kernel_rfl)) (by unfold Func.isWrapper; first | (rw [if_pos (by decide +kernel)]; kernel_rfl) | (rw [if_neg (by decide +kernel)]; exact ⟨rfl, rfl⟩))
    (fun os started H enc _ => lifted os started H enc)

end CoLaw

/-- THE STATEMENT -/
theorem lawS2485CContended_proved : Rows.LawS2485CContendedSaid := CoLaw.over
#print axioms lawS2485CContended_proved
end Go.Proofs.Ybulkaylc
