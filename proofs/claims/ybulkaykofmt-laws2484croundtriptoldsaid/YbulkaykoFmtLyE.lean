import Derived.Test.YbulkaykoFmtLyD
import Derived.Test.YbulkaykoFmtCards
import Derived.ProofKit
import Derived.OpenShut
import Derived.ShutString
import Derived.ChangeOld
import Derived.Below
import Derived.JoinedOf
import Derived.Carry
import Derived.Stop.JoinedAt
import Derived.Stop.JoinedTold
import Derived.SevenToldRow
namespace Go.Proofs.YbulkaykoFmt
namespace Ly
open Go.ChangeShapes Go.WideShapes Go.ChangeAt Go.RowKit Go.Kit
open Go.Extern.Stop Go.Stop Go.Extern
set_option linter.unusedVariables false

theorem own : ownKnob Ybaf.prog.godebug = none := by kernel_rfl
theorem laidOut : laidOutB Ybaf.prog = true := by kernel_rfl
theorem cells25 : Ybaf.prog.cellsOf 25 = 7 := by kernel_rfl
theorem cells22 : Ybaf.prog.cellsOf 22 = 1 := by kernel_rfl
theorem cells5 : Ybaf.prog.cellsOf 5 = 1 := by kernel_rfl
theorem cells23 : Ybaf.prog.cellsOf 23 = 1 := by kernel_rfl

theorem array7 {α : Type} {cs : Array α} (h : cs.size = 7) : ∃ c0 c1 c2 c3 c4 c5 c6, cs = #[c0, c1, c2, c3, c4, c5, c6] := by
  obtain ⟨l⟩ := cs
  match l, h with
  | [c0, c1, c2, c3, c4, c5, c6], _ => exact ⟨c0, c1, c2, c3, c4, c5, c6, rfl⟩

theorem trod_struct7 {H : Type} {enc : TypeId × Value → H} {P : Program} {w : World} {base : Nat} {spare : Nat → Bool} {held : Bool} {t : TypeId} {f0 f1 f2 f3 f4 f5 f6 : Field} {fuel : Nat} {cs : List Value} {x : DataW H × List MemPlace} (ht : P.underlying t = some (.struct #[f0, f1, f2, f3, f4, f5, f6])) (h : DataW.trod enc P w base spare held fuel t cs = some x) :
    ∃ y0 y1 y2 y3 y4 y5 y6 n, DataW.trod enc P w base spare held n f0.type ((cs.drop f0.offset).take (P.cellsOf f0.type)) = some y0 ∧
      DataW.trod enc P w base spare held n f1.type ((cs.drop f1.offset).take (P.cellsOf f1.type)) = some y1 ∧ DataW.trod enc P w base spare held n f2.type ((cs.drop f2.offset).take (P.cellsOf f2.type)) = some y2 ∧
      DataW.trod enc P w base spare held n f3.type ((cs.drop f3.offset).take (P.cellsOf f3.type)) = some y3 ∧ DataW.trod enc P w base spare held n f4.type ((cs.drop f4.offset).take (P.cellsOf f4.type)) = some y4 ∧
      DataW.trod enc P w base spare held n f5.type ((cs.drop f5.offset).take (P.cellsOf f5.type)) = some y5 ∧ DataW.trod enc P w base spare held n f6.type ((cs.drop f6.offset).take (P.cellsOf f6.type)) = some y6 := by
  obtain ⟨xs, n, _, _, _, hlen, hf⟩ := DataW.trod_struct ht h
  match xs, hlen with
  | [y0, y1, y2, y3, y4, y5, y6], _ => exact ⟨y0, y1, y2, y3, y4, y5, y6, n, by simpa using hf 0 f0 rfl, by simpa using hf 1 f1 rfl, by simpa using hf 2 f2 rfl, by simpa using hf 3 f3 rfl, by simpa using hf 4 f4 rfl, by simpa using hf 5 f5 rfl, by simpa using hf 6 f6 rfl⟩

set_option maxRecDepth 100000 in
theorem open_in {H : Type} {enc : TypeId × Value → H} {W : World} {base : Nat} {held : Bool} {r : Reach} {b0 : Nat} {v : Value} {d : DataW H} {p : List MemPlace}
    (hv : Value.okWide Ybaf.prog W r b0 25 v) (h : DataW.Trod enc Ybaf.prog W base (fun _ => true) held 25 v d p) :
    ∃ (opc dpc si ni mp sls : Int) (a : Option Addr) (len cap : Nat) (z : Nat → Int), v = .agg #[.int .u32 opc, .int .u32 dpc, .int .u8 si, .int .u8 ni, .int .u8 mp, .int .u8 sls, .slice a len cap] ∧
      (0 ≤ opc ∧ opc < 4294967296) ∧ (0 ≤ dpc ∧ dpc < 4294967296) ∧ len ≤ maxLen ∧ IsData W a len z := by
  obtain ⟨cs, rfl, hsz⟩ := okWide_struct Ybaf.underlying25 hv
  obtain ⟨c0, c1, c2, c3, c4, c5, c6, rfl⟩ := array7 (hsz.trans cells25)
  obtain ⟨fuel, hf⟩ := h
  obtain ⟨y0, y1, y2, y3, y4, y5, y6, n, e0, e1, e2, e3, e4, e5, e6⟩ := trod_struct7 Ybaf.underlying25 hf
  simp [Value.cells, cells22, cells5, cells23] at e0 e1 e2 e3 e4 e5 e6
  obtain ⟨opc, q0, _, w0⟩ := DataW.trod_int Ybaf.underlying22 e0
  obtain ⟨dpc, q1, _, w1⟩ := DataW.trod_int Ybaf.underlying22 e1
  obtain ⟨si, q2, _, _⟩ := DataW.trod_int Ybaf.underlying5 e2
  obtain ⟨ni, q3, _, _⟩ := DataW.trod_int Ybaf.underlying5 e3
  obtain ⟨mp, q4, _, _⟩ := DataW.trod_int Ybaf.underlying5 e4
  obtain ⟨sls, q5, _, _⟩ := DataW.trod_int Ybaf.underlying5 e5
  simp at q0 q1 q2 q3 q4 q5
  subst q0 q1 q2 q3 q4 q5
  have b0 : 0 ≤ opc ∧ opc < 4294967296 := by have := bounds_u32 w0; omega
  have b1 : 0 ≤ dpc ∧ dpc < 4294967296 := by have := bounds_u32 w1; omega
  rcases open_ints Ybaf.underlying23 Ybaf.underlying5 cells5 e6 with ⟨hcs, _⟩ | ⟨a, l, c, zs, hcs, _, hle, hm, hz, _, hcell, hwz⟩
  · simp at hcs
    subst hcs
    exact ⟨opc, dpc, si, ni, mp, sls, none, 0, 0, fun _ => 0, rfl, b0, b1, Nat.zero_le _, Or.inl rfl⟩
  · simp at hcs
    subst hcs
    refine ⟨opc, dpc, si, ni, mp, sls, some a, l, c, fun i => zs.getD i 0, rfl, b0, b1, Nat.le_trans hle hm, ?_⟩
    rcases Nat.eq_zero_or_pos l with h0 | hpos
    · exact Or.inl h0
    right
    simp at hz
    obtain ⟨b, off, spot⟩ := a
    have hspot : spot = none := by
      have := hcell 0 (by omega)
      rw [Addr.add_zero'] at this
      exact World.cell?_spot this
    subst hspot
    refine ⟨b, off, rfl, ?_, fun i hi => by have := hcell i (by omega); rwa [add_plain] at this⟩
    have h0 := hcell 0 (by omega)
    rw [add_plain] at h0
    unfold World.cell? at h0
    rcases Nat.lt_or_ge b W.heap.size with h' | h'
    · exact h'
    · rw [Array.getElem?_eq_none h'] at h0; simp at h0


theorem laidOut' : laidOutB Ybaf.pinned.checked.prog = true := by kernel_rfl
theorem stopKnobs : Ybaf.pinned.checked.prog.stopKnobs = [] := by kernel_rfl
theorem quiet (os : Os) : Stop.quiet Ybaf.pinned.checked.prog os := by
  intro k hk
  rw [stopKnobs] at hk
  cases hk

set_option maxRecDepth 100000 in
theorem lifted (os : Os) (started : os.Started) (H : Type) (enc : TypeId × Value → H) :
    ReturnsInTold none {} Ybaf.checked os 3 .any Input.okWide ((OpenSpec.ofChange Rows.lawS2484CRoundTripSpec).preRow enc Ybaf.prog Ybaf.f3 [] false []) (fun F => ((OpenSpec.ofChange Rows.lawS2484CRoundTripSpec).at F).post enc Ybaf.prog Ybaf.f3 false true false false) (aloneAtReturn Ybaf.prog) nothingAlways := by
  refine returnsInTold_of_row (C := Ybaf.checked) (s := OpenSpec.ofChange Rows.lawS2484CRoundTripSpec) (by kernel_rfl) own started (by kernel_rfl) Ybaf.func3
    (OpenSpec.witness_stopped (enc := enc) (C := Ybaf.checked) false ⟨#[], #[.agg #[.int .u32 0, .int .u32 0, .int .u8 0, .int .u8 0, .int .u8 0, .int .u8 0, .slice none 0 0]], []⟩ 8 (by kernel_rfl) (by kernel_rfl) (by kernel_rfl) (by kernel_rfl)) ?_
  intro F W base args ds gs before _ hF hval0 hW _ _ hsz _ _
  have hval : ∀ (j : Nat) t v, Ybaf.f3.params[j]? = some t → args[j]? = some v → Value.okWide Ybaf.prog W .any base t v := hval0
  have hW' := hW
  obtain ⟨p, q, hA0, hV, rfl, hfz, hnd⟩ := hW
  have hA : DataW.TrodAll enc Ybaf.prog W 0 (fun _ => true) true Ybaf.f3.params.toList args.toList ds p := hA0
  rw [Ybaf.params3] at hA hval
  obtain ⟨v0, vs0, d0, ds0, p0, q0, hargs, rfl, rfl, h0, r0⟩ := trodAll_cons hA
  obtain ⟨rfl, rfl, rfl⟩ := trodAll_nil r0
  obtain rfl : args = #[v0] := by cases args; simp_all
  obtain ⟨rfl, rfl⟩ := trodVars_none hV
  have k0 := h0
  have lt0 : ∀ x ∈ p0, x.block < W.heap.size := by obtain ⟨m, hm⟩ := k0; exact DataW.trod_lt m _ _ _ hm
  obtain ⟨opc, dpc, si, ni, mp, sls, a, len, cap, z, rfl, b0, b1, hm, hd⟩ := open_in (hval 0 25 v0 rfl rfl) h0
  clear hA0 hval0
  refine (walk opc dpc si ni mp sls a len cap z W b0 b1 hm hd).mono fun e W' ⟨he, bel⟩ => ?_
  subst he
  exact ⟨_, rfl, _, _, _, [], _, [], hW', trodAll_mk1 (shut_bool Ybaf.underlying4 _), (trodAll_cons_mk (Below.trod laidOut (by kernel_rfl) (of_decide_eq_true (by kernel_rfl)) k0 bel lt0) trodAll_mk0), rfl, bel.frame _, fun h => by cases h⟩

end Ly

/-- THE STATEMENT -/
theorem lawS2484CRoundTrip_proved : Rows.LawS2484CRoundTripToldSaid :=
  Claim7.holds_of_told_any 3 Ybaf.f3 _ _ [] _ _ _ (by kernel_rfl) rfl rfl rfl Ly.laidOut' (by kernel_rfl) rfl ⟨rfl, rfl, rfl, rfl, rfl, rfl, rfl⟩ rfl rfl (by kernel_rfl) (by kernel_rfl) Ybaf.func3 (by kernel_rfl)
    (of_decide_eq_true (by kernel_rfl)) (of_decide_eq_true (by kernel_rfl)) (by kernel_rfl) rfl Ly.stopKnobs.symm (by kernel_rfl)
    (by kernel_rfl) (by kernel_rfl) (by kernel_rfl) (by kernel_rfl) (by kernel_rfl) (by kernel_rfl) (by kernel_rfl) (by kernel_rfl) (by kernel_rfl) rfl (by kernel_rfl) rfl rfl
    rfl rfl
    rfl (by kernel_rfl) (by kernel_rfl) (by kernel_rfl) (by decide) (by kernel_rfl)
    (OpenClaim.moreEntering_of (by kernel_rfl) (by kernel_rfl) (by kernel_rfl) (by kernel_rfl) (by kernel_rfl) (by kernel_rfl) (by kernel_rfl) (by kernel_rfl) (by kernel_rfl) (by kernel_rfl))
    ⟨_, WideRow.started_initial, Ly.quiet _⟩
    (fun os started _ H enc _ => Ly.lifted os started H enc)
#print axioms lawS2484CRoundTrip_proved
end Go.Proofs.YbulkaykoFmt
