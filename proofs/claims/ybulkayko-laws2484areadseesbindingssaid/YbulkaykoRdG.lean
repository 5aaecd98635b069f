import Derived.Test.YbulkaykoRdF
import Derived.ProofKit
import Derived.OpenShut
import Derived.ShutString
import Derived.ChangeOld
import Derived.SliceStrings
import Derived.Below
namespace Go.Proofs.Ybulkayko
namespace Rd
open Go.ChangeShapes Go.WideShapes Go.ChangeAt Go.RowKit
set_option linter.unusedVariables false

theorem own : ownKnob Yba.prog.godebug = none := by kernel_rfl
theorem laidOut : laidOutB Yba.prog = true := by kernel_rfl
theorem cells9 : Yba.prog.cellsOf 9 = 1 := by kernel_rfl

/-- What the walk is told of a slice of strings that came in. -/
def IsStrs (w : World) (a : Option Addr) (len : Nat) (ks : Nat → ByteArray) : Prop :=
  len ≤ maxLen ∧ (len = 0 ∨ ∃ b off, a = some ⟨b, off, none⟩ ∧ b < w.heap.size ∧ (∀ i, i < len → w.cell? ⟨b, off + i, none⟩ = some (.string (ks i))) ∧ ∀ i, i < len → (ks i).size ≤ maxLen)

theorem isStrs_of {H : Type} {enc : TypeId × Value → H} {W : World} {base : Nat} {held : Bool} {a : Option Addr} {len cap : Nat} {d : DataW H} {p : List MemPlace}
    (h : DataW.Trod enc Yba.prog W base (fun _ => true) held 22 (.slice a len cap) d p) : ∃ ks, IsStrs W a len ks := by
  obtain ⟨fuel, hf⟩ := h
  rcases open_strings Yba.underlying22 Yba.underlying9 cells9 hf with ⟨hcs, _⟩ | ⟨x, l, c, ss, hcs, _, hl, hm, hz, _, hcell, hws⟩
  · simp [Value.cells] at hcs
    obtain ⟨rfl, rfl, rfl⟩ := hcs
    exact ⟨fun _ => ByteArray.empty, Nat.zero_le _, Or.inl rfl⟩
  · simp [Value.cells] at hcs
    obtain ⟨rfl, rfl, rfl⟩ := hcs
    refine ⟨fun i => ss.getD i ByteArray.empty, Nat.le_trans hl hm, ?_⟩
    rcases Nat.eq_zero_or_pos len with h0 | hpos
    · exact Or.inl h0
    right
    simp at hz
    obtain ⟨b, off, spot⟩ := x
    have hspot : spot = none := by
      have := hcell 0 (by omega)
      rw [Addr.add_zero'] at this
      exact World.cell?_spot this
    subst hspot
    refine ⟨b, off, rfl, ?_, fun i hi => by have := hcell i (by omega); rwa [add_plain] at this, fun i hi => ?_⟩
    · have h0 := hcell 0 (by omega)
      rw [add_plain] at h0
      unfold World.cell? at h0
      rcases Nat.lt_or_ge b W.heap.size with h' | h'
      · exact h'
      · rw [Array.getElem?_eq_none h'] at h0; simp at h0
    · have hi' : i < ss.length := by omega
      show (ss.getD i ByteArray.empty).size ≤ maxLen
      rw [List.getD_eq_getElem?_getD, List.getElem?_eq_getElem hi']
      exact hws _ (List.getElem_mem hi')

theorem walk (a va : Option Addr) (len cap vlen vcap : Nat) (ks vs : Nat → ByteArray) (w : World) (hk : IsStrs w a len ks) (hv : IsStrs w va vlen vs) :
    Calls Yba.prog 3 #[.slice a len cap, .slice va vlen vcap] w fun e w' => e = .returned (.bool true) ∧ Below w.heap.size w w' := by
  rcases Nat.lt_or_ge 1024 len with hl | hl
  · exact law_long1 a va len cap vlen vcap w hl hk.1
  rcases Nat.lt_or_ge 1024 vlen with hvl | hvl
  · exact law_long2 a va len cap vlen vcap w hl hvl hv.1
  rcases hk.2 with rfl | ⟨b, off, rfl, hb, hK, sK⟩
  · exact law_k0 a va cap vlen vcap w hvl
  rcases hv.2 with rfl | ⟨vb, voff, rfl, hvb, hV, sV⟩
  · exact law_v0 va b off len cap vcap ks w hl hb hK sK
  rcases Nat.eq_zero_or_pos vlen with rfl | hvp
  · exact law_v0 _ b off len cap vcap ks w hl hb hK sK
  · exact law_vv b off len cap vb voff vlen vcap ks vs w hl hvl hvp hb hvb hK hV sK sV

set_option maxRecDepth 100000 in
theorem lifted (os : Os) (started : os.Started) (H : Type) (enc : TypeId × Value → H) :
    ReturnsInHanded {} Yba.checked os 3 .any (Rows.lawS2484AReadSeesBindingsSpec.pre6 enc Yba.prog Yba.f3 Rows.lawS2484AReadSeesBindingsRow.domain false) (Rows.lawS2484AReadSeesBindingsSpec.post enc Yba.prog Yba.f3 false true false false) := by
  refine returnsInHanded_of_change (C := Yba.checked) own started (by kernel_rfl) Yba.func3
    (ChangeSpec.witness6 (enc := enc) (C := Yba.checked) false ⟨#[], #[.slice none 0 0, .slice none 0 0], []⟩ 8 (by kernel_rfl) (by kernel_rfl) (by kernel_rfl) (by kernel_rfl)) ?_
  intro W base args ds gs before hval0 hW hcnd _
  have hval : ∀ (j : Nat) t v, Yba.f3.params[j]? = some t → args[j]? = some v → Value.okWide Yba.prog W .any base t v := hval0
  have hW' := hW
  obtain ⟨p, q, hA0, hV, rfl, hfz, hnd⟩ := hW
  have hA : DataW.TrodAll enc Yba.prog W 0 (fun _ => true) true Yba.f3.params.toList args.toList ds p := hA0
  rw [Yba.params3] at hA hval
  obtain ⟨v0, vs0, d0, ds0, p0, q0, hargs, rfl, rfl, h0, r0⟩ := trodAll_cons hA
  obtain ⟨v1, vs1, d1, ds1, p1, q1, rfl, rfl, rfl, h1, r1⟩ := trodAll_cons r0
  obtain ⟨rfl, rfl, rfl⟩ := trodAll_nil r1
  obtain rfl : args = #[v0, v1] := by cases args; simp_all
  obtain ⟨rfl, rfl⟩ := trodVars_none hV
  obtain ⟨a0, len0, cap0, rfl⟩ := okWide_slice Yba.underlying22 (hval 0 22 v0 rfl rfl)
  obtain ⟨a1, len1, cap1, rfl⟩ := okWide_slice Yba.underlying22 (hval 1 22 v1 rfl rfl)
  have k0 := h0
  have k1 := h1
  have lt0 : ∀ x ∈ p0, x.block < W.heap.size := by obtain ⟨m, hm⟩ := k0; exact DataW.trod_lt m _ _ _ hm
  have lt1 : ∀ x ∈ p1, x.block < W.heap.size := by obtain ⟨m, hm⟩ := k1; exact DataW.trod_lt m _ _ _ hm
  obtain ⟨ks, hks⟩ := isStrs_of h0
  obtain ⟨vs, hvs⟩ := isStrs_of h1
  clear hA0 hval0
  refine (walk a0 a1 len0 cap0 len1 cap1 ks vs W hks hvs).mono fun e W' ⟨he, bel⟩ => ?_
  subst he
  exact ⟨_, rfl, _, _, _, [], _, [], hW', trodAll_mk1 (shut_bool Yba.underlying4 _), (trodAll_cons_mk (Below.trod laidOut (by kernel_rfl) (of_decide_eq_true (by kernel_rfl)) k0 bel lt0) (trodAll_cons_mk (Below.trod laidOut (by kernel_rfl) (of_decide_eq_true (by kernel_rfl)) k1 bel lt1) trodAll_mk0)), rfl, bel.frame _, fun h => by cases h⟩

theorem over : Rows.lawS2484AReadSeesBindingsRow.holds Yba.pinned (OpenSpec.ofChange Rows.lawS2484AReadSeesBindingsSpec) :=
  OpenClaim.holds_of_wide 3 Yba.f3 rfl rfl rfl rfl rfl rfl rfl ⟨rfl, rfl, rfl, rfl, rfl⟩ rfl rfl rfl rfl rfl (by kernel_rfl) Yba.func3 (by kernel_rfl)
    (of_decide_eq_true (by kernel_rfl)) (by unfold Func.isWrapper; first | (rw [if_pos (by decide +kernel)]; kernel_rfl) | (rw [if_neg (by decide +kernel)]; exact ⟨rfl, rfl⟩))
    (fun os started H enc _ => lifted os started H enc)

end Rd

/-- THE STATEMENT -/
theorem lawS2484AReadSeesBindings_proved : Rows.LawS2484AReadSeesBindingsSaid := Rd.over
#print axioms lawS2484AReadSeesBindings_proved
end Go.Proofs.Ybulkayko
