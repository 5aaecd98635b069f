import Derived.Test.YbulkaykoLyC
import Derived.ProofKit
import Derived.OpenShut
import Derived.ShutString
import Derived.ChangeOld
import Derived.Below
namespace Go.Proofs.Ybulkayko
namespace Ly
open Go.ChangeShapes Go.WideShapes Go.ChangeAt Go.RowKit
set_option linter.unusedVariables false

theorem own : ownKnob Yba.prog.godebug = none := by kernel_rfl
theorem laidOut : laidOutB Yba.prog = true := by kernel_rfl
theorem cells53 : Yba.prog.cellsOf 53 = 7 := by kernel_rfl
theorem cells32 : Yba.prog.cellsOf 32 = 1 := by kernel_rfl
theorem cells5 : Yba.prog.cellsOf 5 = 1 := by kernel_rfl
theorem cells51 : Yba.prog.cellsOf 51 = 1 := by kernel_rfl

theorem array7 {α : Type} {cs : Array α} (h : cs.size = 7) : ∃ c0 c1 c2 c3 c4 c5 c6, cs = #[c0, c1, c2, c3, c4, c5, c6] := by
  obtain ⟨l⟩ := cs
  match l, h with
  | [c0, c1, c2, c3, c4, c5, c6], _ => exact ⟨c0, c1, c2, c3, c4, c5, c6, rfl⟩

/-- What the walk is told of the bytes that came in. -/
def IsData (w : World) (a : Option Addr) (len : Nat) (z : Nat → Int) : Prop :=
  len = 0 ∨ ∃ b off, a = some ⟨b, off, none⟩ ∧ b < w.heap.size ∧ ∀ i, i < len → w.cell? ⟨b, off + i, none⟩ = some (.int .u8 (z i))

theorem trod_struct7 {H : Type} {enc : TypeId × Value → H} {P : Program} {w : World} {base : Nat} {spare : Nat → Bool} {held : Bool} {t : TypeId} {f0 f1 f2 f3 f4 f5 f6 : Field} {fuel : Nat} {cs : List Value} {x : DataW H × List MemPlace} (ht : P.underlying t = some (.struct #[f0, f1, f2, f3, f4, f5, f6])) (h : DataW.trod enc P w base spare held fuel t cs = some x) :
    ∃ y0 y1 y2 y3 y4 y5 y6 n, DataW.trod enc P w base spare held n f0.type ((cs.drop f0.offset).take (P.cellsOf f0.type)) = some y0 ∧
      DataW.trod enc P w base spare held n f1.type ((cs.drop f1.offset).take (P.cellsOf f1.type)) = some y1 ∧ DataW.trod enc P w base spare held n f2.type ((cs.drop f2.offset).take (P.cellsOf f2.type)) = some y2 ∧
      DataW.trod enc P w base spare held n f3.type ((cs.drop f3.offset).take (P.cellsOf f3.type)) = some y3 ∧ DataW.trod enc P w base spare held n f4.type ((cs.drop f4.offset).take (P.cellsOf f4.type)) = some y4 ∧
      DataW.trod enc P w base spare held n f5.type ((cs.drop f5.offset).take (P.cellsOf f5.type)) = some y5 ∧ DataW.trod enc P w base spare held n f6.type ((cs.drop f6.offset).take (P.cellsOf f6.type)) = some y6 := by
  obtain ⟨xs, n, _, _, _, hlen, hf⟩ := DataW.trod_struct ht h
  match xs, hlen with
  | [y0, y1, y2, y3, y4, y5, y6], _ => exact ⟨y0, y1, y2, y3, y4, y5, y6, n, by simpa using hf 0 f0 rfl, by simpa using hf 1 f1 rfl, by simpa using hf 2 f2 rfl, by simpa using hf 3 f3 rfl, by simpa using hf 4 f4 rfl, by simpa using hf 5 f5 rfl, by simpa using hf 6 f6 rfl⟩

set_option maxRecDepth 100000 in
theorem open_in {H : Type} {enc : TypeId × Value → H} {W : World} {base : Nat} {held : Bool} {r : Reach} {b0 : Nat} {v : Value} {d : DataW H} {p : List MemPlace}
    (hv : Value.okWide Yba.prog W r b0 53 v) (h : DataW.Trod enc Yba.prog W base (fun _ => true) held 53 v d p) :
    ∃ (opc dpc si ni mp sls : Int) (a : Option Addr) (len cap : Nat) (z : Nat → Int), v = .agg #[.int .u32 opc, .int .u32 dpc, .int .u8 si, .int .u8 ni, .int .u8 mp, .int .u8 sls, .slice a len cap] ∧
      (0 ≤ opc ∧ opc < 4294967296) ∧ (0 ≤ dpc ∧ dpc < 4294967296) ∧ len ≤ maxLen ∧ IsData W a len z := by
  obtain ⟨cs, rfl, hsz⟩ := okWide_struct Yba.underlying53 hv
  obtain ⟨c0, c1, c2, c3, c4, c5, c6, rfl⟩ := array7 (hsz.trans cells53)
  obtain ⟨fuel, hf⟩ := h
  obtain ⟨y0, y1, y2, y3, y4, y5, y6, n, e0, e1, e2, e3, e4, e5, e6⟩ := trod_struct7 Yba.underlying53 hf
  simp [Value.cells, cells32, cells5, cells51] at e0 e1 e2 e3 e4 e5 e6
  obtain ⟨opc, q0, _, w0⟩ := DataW.trod_int Yba.underlying32 e0
  obtain ⟨dpc, q1, _, w1⟩ := DataW.trod_int Yba.underlying32 e1
  obtain ⟨si, q2, _, _⟩ := DataW.trod_int Yba.underlying5 e2
  obtain ⟨ni, q3, _, _⟩ := DataW.trod_int Yba.underlying5 e3
  obtain ⟨mp, q4, _, _⟩ := DataW.trod_int Yba.underlying5 e4
  obtain ⟨sls, q5, _, _⟩ := DataW.trod_int Yba.underlying5 e5
  simp at q0 q1 q2 q3 q4 q5
  subst q0 q1 q2 q3 q4 q5
  have b0 : 0 ≤ opc ∧ opc < 4294967296 := by have := bounds_u32 w0; omega
  have b1 : 0 ≤ dpc ∧ dpc < 4294967296 := by have := bounds_u32 w1; omega
  rcases open_ints Yba.underlying51 Yba.underlying5 cells5 e6 with ⟨hcs, _⟩ | ⟨a, l, c, zs, hcs, _, hle, hm, hz, _, hcell, hwz⟩
  · simp at hcs
    subst hcs
    exact ⟨opc, dpc, si, ni, mp, sls, none, 0, 0, fun _ => 0, rfl, b0, b1, Nat.zero_le _, Or.inl rfl⟩
  · simp at hcs
    subst hcs
    refine ⟨opc, dpc, si, ni, mp, sls, some a, l, c, fun i => zs.getD i 0, rfl, b0, b1, Nat.le_trans hle hm, ?_⟩
    rcases Nat.eq_zero_or_pos l with h0 | hpos
    · exact Or.inl h0
    right
    simp at hz
    obtain ⟨b, off, spot⟩ := a
    have hspot : spot = none := by
      have := hcell 0 (by omega)
      rw [Addr.add_zero'] at this
      exact World.cell?_spot this
    subst hspot
    refine ⟨b, off, rfl, ?_, fun i hi => by have := hcell i (by omega); rwa [add_plain] at this⟩
    have h0 := hcell 0 (by omega)
    rw [add_plain] at h0
    unfold World.cell? at h0
    rcases Nat.lt_or_ge b W.heap.size with h' | h'
    · exact h'
    · rw [Array.getElem?_eq_none h'] at h0; simp at h0

theorem walk (opc dpc si ni mp sls : Int) (a : Option Addr) (len cap : Nat) (z : Nat → Int) (w : World) (h0 : 0 ≤ opc ∧ opc < 4294967296) (h1 : 0 ≤ dpc ∧ dpc < 4294967296) (hm : len ≤ maxLen) (hd : IsData w a len z) :
    Calls Yba.prog 4 #[.agg #[.int .u32 opc, .int .u32 dpc, .int .u8 si, .int .u8 ni, .int .u8 mp, .int .u8 sls, .slice a len cap]] w fun e w' => e = .returned (.bool true) ∧ Below w.heap.size w w' := by
  rcases hd with rfl | ⟨b, off, rfl, hb, hc⟩
  · exact law_zero a cap opc dpc si ni mp sls w h0.1 h0.2 h1.1 h1.2
  · rcases Nat.eq_zero_or_pos len with rfl | hpos
    · exact law_zero _ cap opc dpc si ni mp sls w h0.1 h0.2 h1.1 h1.2
    rcases Nat.lt_or_ge 4096 len with hl | hl
    · exact law_long _ len cap opc dpc si ni mp sls w hl hm
    · exact law_pos b off len cap z opc dpc si ni mp sls w h0.1 h0.2 h1.1 h1.2 hl hpos hb hc

set_option maxRecDepth 100000 in
theorem lifted (os : Os) (started : os.Started) (H : Type) (enc : TypeId × Value → H) :
    ReturnsInHanded {} Yba.checked os 4 .any (Rows.lawS2484CLayoutSpec.pre6 enc Yba.prog Yba.f4 Rows.lawS2484CLayoutRow.domain false) (Rows.lawS2484CLayoutSpec.post enc Yba.prog Yba.f4 false true false false) := by
  refine returnsInHanded_of_change (C := Yba.checked) own started (by kernel_rfl) Yba.func4
    (ChangeSpec.witness6 (enc := enc) (C := Yba.checked) false ⟨#[], #[.agg #[.int .u32 0, .int .u32 0, .int .u8 0, .int .u8 0, .int .u8 0, .int .u8 0, .slice none 0 0]], []⟩ 8 (by kernel_rfl) (by kernel_rfl) (by kernel_rfl) (by kernel_rfl)) ?_
  intro W base args ds gs before hval0 hW hcnd _
  have hval : ∀ (j : Nat) t v, Yba.f4.params[j]? = some t → args[j]? = some v → Value.okWide Yba.prog W .any base t v := hval0
  have hW' := hW
  obtain ⟨p, q, hA0, hV, rfl, hfz, hnd⟩ := hW
  have hA : DataW.TrodAll enc Yba.prog W 0 (fun _ => true) true Yba.f4.params.toList args.toList ds p := hA0
  rw [Yba.params4] at hA hval
  obtain ⟨v0, vs0, d0, ds0, p0, q0, hargs, rfl, rfl, h0, r0⟩ := trodAll_cons hA
  obtain ⟨rfl, rfl, rfl⟩ := trodAll_nil r0
  obtain rfl : args = #[v0] := by cases args; simp_all
  obtain ⟨rfl, rfl⟩ := trodVars_none hV
  have k0 := h0
  have lt0 : ∀ x ∈ p0, x.block < W.heap.size := by obtain ⟨m, hm⟩ := k0; exact DataW.trod_lt m _ _ _ hm
  obtain ⟨opc, dpc, si, ni, mp, sls, a, len, cap, z, rfl, b0, b1, hm, hd⟩ := open_in (hval 0 53 v0 rfl rfl) h0
  clear hA0 hval0
  refine (walk opc dpc si ni mp sls a len cap z W b0 b1 hm hd).mono fun e W' ⟨he, bel⟩ => ?_
  subst he
  exact ⟨_, rfl, _, _, _, [], _, [], hW', trodAll_mk1 (shut_bool Yba.underlying4 _), (trodAll_cons_mk (Below.trod laidOut (by kernel_rfl) (of_decide_eq_true (by kernel_rfl)) k0 bel lt0) trodAll_mk0), rfl, bel.frame _, fun h => by cases h⟩

theorem over : Rows.lawS2484CLayoutRow.holds Yba.pinned (OpenSpec.ofChange Rows.lawS2484CLayoutSpec) :=
  OpenClaim.holds_of_wide 4 Yba.f4 rfl rfl rfl rfl rfl rfl rfl ⟨rfl, rfl, rfl, rfl, rfl⟩ rfl rfl rfl rfl rfl (by kernel_rfl) Yba.func4 (by kernel_rfl)
    (of_decide_eq_true (by kernel_rfl)) (by unfold Func.isWrapper; first | (rw [if_pos (by decide +kernel)]; kernel_rfl) | (rw [if_neg (by decide +kernel)]; exact ⟨rfl, rfl⟩))
    (fun os started H enc _ => lifted os started H enc)

end Ly

/-- THE STATEMENT -/
theorem lawS2484CLayout_proved : Rows.LawS2484CLayoutSaid := Ly.over
#print axioms lawS2484CLayout_proved
end Go.Proofs.Ybulkayko
