import Derived.Test.YbulkaylcStF
import Derived.Test.YbulkaylcRows
import Derived.WalkKit
import Derived.ProofKit
import Derived.OpenShut
import Derived.ShutString
import Derived.ChangeOld
import Derived.Below
namespace Go.Proofs.Ybulkaylc
namespace St
open Go.RowKit
set_option linter.unusedVariables false
set_option maxRecDepth 100000
set_option maxHeartbeats 400000 in
theorem law_long (a0 : Option Addr) (len cap : Nat) (a1 : Int) (a2 : Bool) (w : World) (hl : 1024 < len) (hm : len ≤ maxLen) :
    Calls Yba.prog 4 #[.slice a0 len cap, .int .u8 a1, .bool a2] w fun e w' => e = .returned (.bool true) ∧ Below w.heap.size w w' := by
  unfold maxLen at hm
  have h2 : (1024 : Int) < (len : Int) := by omega
  go_enter Yba.func4, Yba.ntmps4
  go_wp2
  go_ret
  exact ⟨rfl, Below.refl _ _⟩
end St
namespace StLaw
open Go.ChangeShapes Go.WideShapes Go.ChangeAt Go.RowKit
open Go.ChangeMaps (open_string shut_string)
set_option linter.unusedVariables false

theorem own : ownKnob Yba.prog.godebug = none := by kernel_rfl
theorem laidOut : laidOutB Yba.prog = true := by kernel_rfl

/-- WHAT THE WALK IS TOLD OF A SLICE OF INTEGERS THAT CAME IN: it is nil; or it leads to a row of 'cap' cells, the numbers 'zs' (the first 'len' are its elements, the rest its spare room), each fitting its kind. -/
def IsRow (k : IntKind) (w : World) (a : Option Addr) (len cap : Nat) (zs : List Int) : Prop :=
  (a = none ∧ len = 0 ∧ cap = 0 ∧ zs = []) ∨
  ∃ x, a = some x ∧ len ≤ cap ∧ cap ≤ maxLen ∧ zs.length = cap ∧ (∀ i, i < zs.length → w.cell? (x.add i) = some (.int k (zs.getD i 0))) ∧ ∀ n ∈ zs, (Lit.int k n).wf = true

theorem walk (a0 : Option Addr) (len0 cap0 : Nat) (z0 : List Int) (a1 : Int) (a2 : Bool) (w : World) (w0 : IsRow .u8 w a0 len0 cap0 z0) (w1 : (Lit.int .u8 a1).wf = true) :
    Calls Yba.prog 4 #[.slice a0 len0 cap0, .int .u8 a1, .bool a2] w fun e w' => e = .returned (.bool true) ∧ Below w.heap.size w w' := by
  have hs := bounds_u8 w1
  have empty : ∀ a cap, Calls Yba.prog 4 #[.slice a 0 cap, .int .u8 a1, .bool a2] w fun e w' => e = .returned (.bool true) ∧ Below w.heap.size w w' := fun a cap =>
    St.law_main a 0 0 0 cap 0 0 a1 a2 (fun _ => 0) (fun _ => 0) w (by omega) (.inl ⟨rfl, rfl⟩) (fun h => absurd h (by omega)) hs.1 hs.2 (by show a1 % ((0 : Nat) + 1 : Int) = ((0 : Nat) : Int); omega) (by omega) (fun _ => by show 0 < 8; omega) (fun _ _ => rfl) (fun i hi => absurd hi (by omega)) (fun i hi => absurd hi (by omega))
  rcases w0 with ⟨rfl, rfl, rfl, rfl⟩ | ⟨x, rfl, hl, hmx, hz, hcell, hwz⟩
  · exact empty _ _
  rcases Nat.eq_zero_or_pos len0 with rfl | hpos
  · exact empty _ _
  rcases Nat.lt_or_ge 1024 len0 with hlong | hshort
  · exact St.law_long _ len0 cap0 a1 a2 w hlong (Nat.le_trans hl hmx)
  obtain ⟨m, rfl⟩ : ∃ m, len0 = m + 1 := ⟨len0 - 1, by omega⟩
  obtain ⟨b, off, spot⟩ := x
  have hspot : spot = none := by
    have := hcell 0 (by omega)
    rw [Addr.add_zero'] at this
    exact World.cell?_spot this
  subst hspot
  have hb : b < w.heap.size := by
    have h0 := hcell 0 (by omega)
    rw [add_plain] at h0
    exact Sw.lt_of_cell (p := ⟨b, off + 0, none⟩) h0
  have hmod0 : 0 ≤ a1 % ((m : Int) + 1) := Int.emod_nonneg _ (by omega)
  have hmod1 : a1 % ((m : Int) + 1) < (m : Int) + 1 := Int.emod_lt_of_pos _ (by omega)
  have hcl : ∀ i, i < m + 1 → b < w.heap.size ∧ w.cell? ⟨b, off + i, none⟩ = some (.int .u8 (z0.getD i 0)) := fun i hi => ⟨hb, by have := hcell i (by omega); rwa [add_plain] at this⟩
  have hbd : ∀ i, i < m + 1 → 0 ≤ z0.getD i 0 ∧ z0.getD i 0 ≤ 255 := fun i hi => by
    have hmem : z0.getD i 0 ∈ z0 := by
      have hlt : i < z0.length := by omega
      rw [List.getD_eq_getElem?_getD, List.getElem?_eq_getElem hlt]
      exact List.getElem_mem hlt
    exact bounds_u8 (hwz _ hmem)
  have hm8 : ∀ i, 0 ≤ z0.getD i 0 % 8 ∧ z0.getD i 0 % 8 < 8 := fun i => ⟨Int.emod_nonneg _ (by omega), Int.emod_lt_of_pos _ (by omega)⟩
  refine St.law_main (some ⟨b, off, none⟩) b off (m + 1) cap0 m (a1 % ((m : Int) + 1)).toNat a1 a2 (fun i => z0.getD i 0) (fun i => if i < m + 1 then (z0.getD i 0 % 8).toNat else 0) w (by omega) (.inr rfl) (fun _ => rfl) hs.1 hs.2 (by omega) (by omega) (fun i => ?_) (fun i hi => if_neg (by omega)) (fun i hi => ?_) hcl
  · have := hm8 i
    show (if i < m + 1 then (z0.getD i 0 % 8).toNat else 0) < 8
    by_cases h : i < m + 1
    · rw [if_pos h]; omega
    · rw [if_neg h]; omega
  · have h1 := hm8 i
    have h2 := hbd i hi
    refine ⟨h2.1, h2.2, ?_⟩
    show z0.getD i 0 % 8 = ((if i < m + 1 then (z0.getD i 0 % 8).toNat else 0 : Nat) : Int)
    rw [if_pos hi]
    omega

set_option maxRecDepth 100000 in
theorem lifted (os : Os) (started : os.Started) (H : Type) (enc : TypeId × Value → H) :
    ReturnsInHanded {} Yba.checked os 4 .any (Rows.lawS2485AStandInSpec.pre6 enc Yba.prog Yba.f4 Rows.lawS2485AStandInRow.domain false) (Rows.lawS2485AStandInSpec.post enc Yba.prog Yba.f4 false true false false) := by
  refine returnsInHanded_of_change (C := Yba.checked) own started (by kernel_rfl) Yba.func4
    (ChangeSpec.witness6 (enc := enc) (C := Yba.checked) false ⟨#[], #[.slice none 0 0, .int .u8 0, .bool false], []⟩ 8 (by kernel_rfl) (by kernel_rfl) (by kernel_rfl) (by kernel_rfl)) ?_
  intro W base args ds gs before hval0 hW hcnd _
  have hval : ∀ (j : Nat) t v, Yba.f4.params[j]? = some t → args[j]? = some v → Value.okWide Yba.prog W .any base t v := hval0
  have hW' := hW
  obtain ⟨p, q, hA0, hV, rfl, hfz, hnd⟩ := hW
  have hA : DataW.TrodAll enc Yba.prog W 0 (fun _ => true) true Yba.f4.params.toList args.toList ds p := hA0
  rw [Yba.params4] at hA hval
  obtain ⟨v0, vs0, d0, ds0, p0, q0, hargs, rfl, rfl, h0, r0⟩ := trodAll_cons hA
  obtain ⟨v1, vs1, d1, ds1, p1, q1, rfl, rfl, rfl, h1, r1⟩ := trodAll_cons r0
  obtain ⟨v2, vs2, d2, ds2, p2, q2, rfl, rfl, rfl, h2, r2⟩ := trodAll_cons r1
  obtain ⟨rfl, rfl, rfl⟩ := trodAll_nil r2
  obtain rfl : args = #[v0, v1, v2] := by cases args; simp_all
  obtain ⟨rfl, rfl⟩ := trodVars_none hV
  obtain ⟨a0, len0, cap0, rfl⟩ := okWide_slice Yba.underlying49 (hval 0 49 v0 rfl rfl)
  have k0 := h0
  have lt0 : ∀ x ∈ p0, x.block < W.heap.size := by obtain ⟨m, hm⟩ := k0; exact DataW.trod_lt m _ _ _ hm
  obtain ⟨z0, w0⟩ : ∃ zs, IsRow .u8 W a0 len0 cap0 zs := by
    obtain ⟨fuel, hf⟩ := h0
    rcases open_ints Yba.underlying49 Yba.underlying5 (by kernel_rfl) hf with ⟨hcs, _⟩ | ⟨x, l, c, zs, hcs, _, hl, hm, hz, _, hcell, hwz⟩
    · simp [Value.cells] at hcs
      obtain ⟨rfl, rfl, rfl⟩ := hcs
      exact ⟨[], .inl ⟨rfl, rfl, rfl, rfl⟩⟩
    · simp [Value.cells] at hcs
      obtain ⟨rfl, rfl, rfl⟩ := hcs
      exact ⟨zs, .inr ⟨_, rfl, hl, hm, by simpa using hz, hcell, hwz⟩⟩
  obtain ⟨a1, rfl, rfl, rfl, w1⟩ := open_int Yba.underlying5 (hval 1 5 v1 rfl rfl) h1
  obtain ⟨a2, rfl, rfl, rfl⟩ := open_bool Yba.underlying4 (hval 2 4 v2 rfl rfl) h2
  clear hA0 hval0
  refine (walk a0 len0 cap0 z0 a1 a2 W w0 w1).mono fun e W' ⟨he, bel⟩ => ?_
  subst he
  exact ⟨_, rfl, _, _, _, [], _, [], hW', trodAll_mk1 (shut_bool Yba.underlying4 _), (trodAll_cons_mk (Below.trod laidOut (by kernel_rfl) (of_decide_eq_true (by kernel_rfl)) k0 bel lt0) (trodAll_cons_mk (shut_int Yba.underlying5 w1) (trodAll_cons_mk (shut_bool Yba.underlying4 _) trodAll_mk0))), rfl, bel.frame _, fun h => by cases h⟩

theorem over : Rows.lawS2485AStandInRow.holds Yba.pinned (OpenSpec.ofChange Rows.lawS2485AStandInSpec) :=
  OpenClaim.holds_of_wide 4 Yba.f4 rfl rfl rfl rfl rfl rfl rfl ⟨rfl, rfl, rfl, rfl, rfl⟩ rfl rfl rfl rfl rfl (by kernel_rfl) Yba.func4 (by kernel_rfl)
    (of_decide_eq_true (by kernel_rfl)) (by unfold Func.isWrapper; first | (rw [if_pos (by decide +kernel)]; kernel_rfl) | (rw [if_neg (by decide +kernel)]; exact ⟨rfl, rfl⟩))
    (fun os started H enc _ => lifted os started H enc)

end StLaw

/-- THE STATEMENT -/
theorem lawS2485AStandIn_proved : Rows.LawS2485AStandInSaid := StLaw.over
#print axioms lawS2485AStandIn_proved
end Go.Proofs.Ybulkaylc
