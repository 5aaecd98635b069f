import Derived.Test.YbulkaykoRdC
namespace Go.Proofs.Ybulkayko
open Go.RowKit
set_option linter.unusedVariables false
namespace Rd

set_option maxRecDepth 100000 in
set_option maxHeartbeats 800000 in
theorem closure0 (a : Option Addr) (cap N : Nat) (ks : Nat → ByteArray) (w : World) (hz : w.heap.size = N + 8)
    (cC : w.cell? ⟨N + 6, 0, none⟩ = some (.int .i64 0)) (cS : w.cell? ⟨N + 5, 0, none⟩ = some (.pointer (some ⟨N + 4, 0, none⟩))) (cO : w.cell? ⟨N + 7, 0, none⟩ = some (.bool true)) (cM : w.cell? ⟨N + 2, 0, none⟩ = some (.map (some (N + 1)))) (cK : w.cell? ⟨N, 0, none⟩ = some (.slice a 0 cap))
    (fC : w.frozen? ⟨N + 6, 0, none⟩ = false) (hlk : Lk w (N + 4) 0 1) (hL : Looks w (N + 1) 0 ks) :
    Calls Yba.prog 6 #[.agg #[.map (some (N + 1)), .map (some (N + 3))], .pointer (some ⟨N + 6, 0, none⟩), .pointer (some ⟨N + 5, 0, none⟩), .pointer (some ⟨N + 7, 0, none⟩), .pointer (some ⟨N + 2, 0, none⟩), .pointer (some ⟨N, 0, none⟩)] w fun e w' => e = .returned (.tuple #[]) ∧ Fr (N + 8) (N + 6) (N + 4) w w' ∧ Lk w' (N + 4) 0 1 ∧ w'.cell? ⟨N + 6, 0, none⟩ = some (.int .i64 1) := by
  have HL := hide hlk
  have HLo := hide hL
  clear hlk hL
  go_enter Yba.func6, Yba.ntmps6
  go_wp2_with fail
  generalize hW1 : (w.setCell ⟨N + 6, 0, none⟩ (.int .i64 1)).alloc (.cells #[.map (some (N + 1)), .map (some (N + 3))] 27) = W1
  have b1 : ∀ k, k < N + 8 → k ≠ N + 6 → W1.heap[k]? = w.heap[k]? := fun k h1 h2 => by
    rw [← hW1, Below.heap_alloc _ _ _ (by simp [World.setCell]; omega), Below.heap_setCell _ _ _ _ h2]
  have lk1 : Lk W1 (N + 4) 0 1 := HL.out.of_block (b1 _ (by omega) (by omega))
  refine (try_busy (N + 4) W1 lk1).mono ?_
  rintro e W2 ⟨rfl, lk2, kp2⟩
  have b2 : ∀ k, k < N + 8 → k ≠ N + 6 → k ≠ N + 4 → W2.heap[k]? = w.heap[k]? := fun k h1 h2 h3 => (kp2.block k h3).trans (b1 k h1 h2)
  have y8 : W2.cell? ⟨N + 8, 0, none⟩ = some (.map (some (N + 1))) := by
    rw [World.cell?_of_block (w := W1) (kp2.block (N + 8) (by omega)), ← hW1, cell_new _ _ _ _ _ (by simp [World.setCell, hz])]
    rfl
  have y6 : W2.cell? ⟨N + 6, 0, none⟩ = some (.int .i64 1) := by
    rw [World.cell?_of_block (w := W1) (kp2.block (N + 6) (by omega)), ← hW1, World.cell?_of_block (w := w.setCell ⟨N + 6, 0, none⟩ (.int .i64 1)) (Below.heap_alloc _ _ _ (by simp [World.setCell]; omega))]
    exact World.cell?_setCell_same _ _ _ cC
  have fr2 : Fr (N + 8) (N + 6) (N + 4) w W2 := ⟨by rw [kp2.os, ← hW1]; rfl, by rw [kp2.tape, ← hW1]; rfl, by rw [kp2.output, ← hW1]; rfl, by rw [kp2.size, ← hW1]; simp [World.setCell]; omega, b2⟩
  have yM : W2.cell? ⟨N + 2, 0, none⟩ = some (.map (some (N + 1))) := by rw [World.cell?_of_block (w := w) (b2 (N + 2) (by omega) (by omega) (by omega))]; exact cM
  have yK : W2.cell? ⟨N, 0, none⟩ = some (.slice a 0 cap) := by rw [World.cell?_of_block (w := w) (b2 N (by omega) (by omega) (by omega))]; exact cK
  obtain ⟨nm, hnm⟩ := HLo.out.len_
  have hln := hnm W2 (b2 (N + 1) (by omega) (by omega) (by omega))
  have HF := hide fr2
  have B2 := hide b2
  have Y6 := hide y6
  have LK := hide lk2
  clear b1 b2 hW1 kp2 hnm fr2 y6 lk2 lk1 HL cC cS cO cM cK fC
  go_wp2_with fail
  clear hln
  go_loopw [7] (fun i wr => ∃ k m : Nat, k = 0 ∧ i = .int .i64 0 ∧ wr = W2.drewN m) (fun i _ => 0)
  case atStart => exact ⟨0, 0, rfl, rfl, rfl⟩
  case round =>
    obtain ⟨k, m, hk, rfl, hwr⟩ := hrel
    have z8 : wr.cell? ⟨N + 8, 0, none⟩ = some (.map (some (N + 1))) := by rw [hwr]; exact y8
    have zM : wr.cell? ⟨N + 2, 0, none⟩ = some (.map (some (N + 1))) := by rw [hwr]; exact yM
    have zK : wr.cell? ⟨N, 0, none⟩ = some (.slice a 0 cap) := by rw [hwr]; exact yK
    have HW := hide hwr
    clear hwr y8 yM yK
    go_wp2_with fail
    go_end0
    have hwr := HW.out
    subst hwr
    exact ⟨rfl, ⟨HF.out.os, HF.out.tape, HF.out.output, HF.out.size, HF.out.block⟩, LK.out.of_block rfl, Y6.out⟩

set_option maxRecDepth 100000 in
set_option maxHeartbeats 800000 in
theorem read0 (a : Option Addr) (cap N : Nat) (ks : Nat → ByteArray) (w : World) (hz : w.heap.size = N + 8)
    (cC : w.cell? ⟨N + 6, 0, none⟩ = some (.int .i64 0)) (cS : w.cell? ⟨N + 5, 0, none⟩ = some (.pointer (some ⟨N + 4, 0, none⟩))) (cO : w.cell? ⟨N + 7, 0, none⟩ = some (.bool true)) (cM : w.cell? ⟨N + 2, 0, none⟩ = some (.map (some (N + 1)))) (cK : w.cell? ⟨N, 0, none⟩ = some (.slice a 0 cap))
    (c15 : w.cell? ⟨N + 4, 15, none⟩ = some (.map (some (N + 1)))) (c16 : w.cell? ⟨N + 4, 16, none⟩ = some (.map (some (N + 3))))
    (fC : w.frozen? ⟨N + 6, 0, none⟩ = false) (hlk : Lk w (N + 4) 0 0) (hL : Looks w (N + 1) 0 ks) :
    Calls Yba.prog 5 #[.pointer (some ⟨N + 4, 0, none⟩), .func (.func 6) #[] #[.pointer (some ⟨N + 6, 0, none⟩), .pointer (some ⟨N + 5, 0, none⟩), .pointer (some ⟨N + 7, 0, none⟩), .pointer (some ⟨N + 2, 0, none⟩), .pointer (some ⟨N, 0, none⟩)]] w fun e w' => e = .returned (.tuple #[]) ∧ Fr (N + 8) (N + 6) (N + 4) w w' ∧ Lk w' (N + 4) 0 0 ∧ w'.cell? ⟨N + 6, 0, none⟩ = some (.int .i64 1) := by
  have HC := hide cC
  have HS := hide cS
  have HO := hide cO
  have HM := hide cM
  have HKk := hide cK
  have HL := hide hL
  have HFz := hide fC
  clear cC cS cO cM cK hL fC
  go_enter_defers Yba.func5, Yba.ntmps5
  go_wp2_with fail
  refine (rlock (N + 4) _ hlk).mono ?_
  rintro e w1 ⟨rfl, k1, kp1⟩
  have d15 := (kp1.cell 15 (by omega) (by omega)).trans c15
  have d16 := (kp1.cell 16 (by omega) (by omega)).trans c16
  have K1 := hide k1
  have KP := hide kp1
  clear k1 kp1 hlk
  go_wp2_with fail
  have bk := KP.out.block
  refine (closure0 a cap N ks w1 (KP.out.size.trans hz) ?_ ?_ ?_ ?_ ?_ ?_ K1.out ?_).mono ?_
  · rw [World.cell?_of_block (w := w) (bk (N + 6) (by omega))]; exact HC.out
  · rw [World.cell?_of_block (w := w) (bk (N + 5) (by omega))]; exact HS.out
  · rw [World.cell?_of_block (w := w) (bk (N + 7) (by omega))]; exact HO.out
  · rw [World.cell?_of_block (w := w) (bk (N + 2) (by omega))]; exact HM.out
  · rw [World.cell?_of_block (w := w) (bk N (by omega))]; exact HKk.out
  · rw [World.frozen?_of_block (w := w) (bk (N + 6) (by omega))]; exact HFz.out
  · exact HL.out.of_block (bk (N + 1) (by omega)) (by rw [KP.out.size]; exact HL.out.lt)
  rintro e w2 ⟨rfl, fr, lk2, y6⟩
  clear bk d15 d16
  have FR := hide fr
  have L2 := hide lk2
  have Y6 := hide y6
  clear fr lk2 y6
  go_wp2_with fail
  refine leaves_cons (f := 13) (args := #[.pointer (some ⟨N + 4, 9, none⟩)]) (by simp) (by simp [go_sem]) ?_
  refine (runlock (N + 4) .returning _ L2.out).mono ?_
  rintro e u' w'' ⟨rfl, rfl, lk3, kp3⟩
  have kp := KP.out
  have fr := FR.out
  exact ⟨_, results_none rfl _ _ _, rfl, ⟨by rw [kp3.os, fr.os, kp.os], by rw [kp3.tape, fr.tape, kp.tape], by rw [kp3.output, fr.output, kp.output], by rw [kp3.size]; exact fr.size, fun k h1 h2 h3 => by rw [kp3.block k h3, fr.block k h1 h2 h3, kp.block k h3]⟩, lk3, by rw [World.cell?_of_block (w := w2) (kp3.block (N + 6) (by omega))]; exact Y6.out⟩


/-- Block M is a map of at most n entries in which the first n keys are. -/
def MapOk (w : World) (M n : Nat) (ks : Nat → ByteArray) : Prop :=
  ∃ D : DataW Unit, w.ownsMap Yba.prog 9 (plainElem Yba.prog 9) M n D ∧ ∀ i, i < n → Maps.has D (.string (ks i).data.toList) = true

/-- Nothing has turned but the entries of the map in block M. -/
structure Tn (M : Nat) (w w' : World) : Prop where
  os : w'.os = w.os
  tape : w'.tape = w.tape
  output : w'.output = w.output
  size : w'.heap.size = w.heap.size
  block : ∀ k, k ≠ M → w'.heap[k]? = w.heap[k]?

theorem Tn.of_turned {M : Nat} {w w' : World} (h : w.mapTurned w' M) : Tn M w w' := by
  obtain ⟨es, clock, es', clock', hb, rfl⟩ := h
  exact ⟨rfl, rfl, rfl, by simp [ChangeMaps.setBlock], fun k hk => ChangeMaps.heap_setBlock_other hb _ hk⟩

theorem key9 : Maps.Keyed Yba.prog 9 := Maps.string_keyed Yba.underlying9

theorem own_of_block {H : Type} {w w' : World} {M n : Nat} {D : DataW H} (h : w.ownsMap Yba.prog 9 (plainElem Yba.prog 9) M n D) (hb : w'.heap[M]? = w.heap[M]?) : w'.ownsMap Yba.prog 9 (plainElem Yba.prog 9) M n D := by
  obtain ⟨es, clock, h1, r⟩ := h
  exact ⟨es, clock, hb.trans h1, r⟩

theorem MapOk.of_block {w w' : World} {M n : Nat} {ks : Nat → ByteArray} (h : MapOk w M n ks) (hb : w'.heap[M]? = w.heap[M]?) : MapOk w' M n ks := by
  obtain ⟨D, h1, h2⟩ := h
  exact ⟨D, own_of_block h1 hb, h2⟩

theorem isKey_string (l : List UInt8) : WideAt.IsKeyLit (.string l) := by
  first | exact trivial | exact Or.inl ⟨_, rfl⟩ | simp [WideAt.IsKeyLit]

theorem MapOk.store {w : World} {M n : Nat} {ks : Nat → ByteArray} (h : MapOk w M n ks) (hn : n < 1024) (v : ByteArray) (hk : (ks n).size ≤ maxLen) (hv : v.size ≤ maxLen) :
    ∃ w1, (Instr.mapUpdate 23 (.map (some M)) (.string (ks n)) (.string v)).run Yba.prog w = .ok () w1 ∧ MapOk w1 M (n + 1) ks ∧ Tn M w w1 := by
  obtain ⟨D, hown, hhas⟩ := h
  obtain ⟨w1, hrun, hown1, htn⟩ := hown.store key9 Yba.underlying23 (by unfold maxLen; omega) (WideMaps.keyOf_string_mk Yba.underlying9 hk) (plainElem_string Yba.underlying9 hv)
  refine ⟨w1, hrun, ⟨_, hown1, fun i hi => ?_⟩, Tn.of_turned htn⟩
  by_cases e : (Lit.string (ks i).data.toList) = .string (ks n).data.toList
  · rw [e]; exact Maps.has_put_same hown.isMap (isKey_string _) _
  · rw [Maps.has_put_other e]
    refine hhas i ?_
    rcases Nat.lt_or_ge i n with h' | h'
    · exact h'
    · have : i = n := by omega
      subst this
      exact absurd rfl e

theorem MapOk.looks {w : World} {M n : Nat} {ks : Nat → ByteArray} (h : MapOk w M n ks) (hk : ∀ i, i < n → (ks i).size ≤ maxLen) : Looks w M n ks := by
  obtain ⟨D, hown, hhas⟩ := h
  refine ⟨hown.lt, fun i hi => ?_, ?_⟩
  · have hz : ∀ W : World, (zeroValue 9).run Yba.prog W = .ok (.string ByteArray.empty) W := fun W => by kernel_rfl
    have hz0 : plainElem (H := Unit) Yba.prog 9 (.string ByteArray.empty) = some (.lit (.string []), []) := plainElem_string Yba.underlying9 (by unfold maxLen; decide)
    have hkey := WideMaps.keyOf_string_mk (P := Yba.prog) Yba.underlying9 (hk i hi)
    have hall : ∀ W : World, W.heap[M]? = w.heap[M]? → ∃ s : ByteArray, (Instr.lookup 23 (.map (some M)) (.string (ks i)) true).run Yba.prog W = .ok (.tuple #[.string s, .bool true]) W ∧ (Instr.lookup 23 (.map (some M)) (.string (ks i)) false).run Yba.prog W = .ok (.string s) W ∧ D.atKey (.string (ks i).data.toList) (.lit (.string [])) = .lit (.string s.data.toList) := by
      intro W hW
      have ho := own_of_block hown hW
      obtain ⟨v, ps, hr1, hv1⟩ := ho.look_ok key9 Yba.underlying23 (hz W) hz0 hkey
      obtain ⟨v', ps', hr2, hv2⟩ := ho.lookup key9 Yba.underlying23 (hz W) hz0 hkey
      obtain ⟨s, rfl, h1, _⟩ := plainElem_string_inv Yba.underlying9 hv1
      obtain ⟨s', rfl, h2, _⟩ := plainElem_string_inv Yba.underlying9 hv2
      simp only [Prod.mk.injEq] at h1 h2
      rw [hhas i hi] at hr1
      have e : s = s' := by
        have := h1.1.symm.trans h2.1
        simp only [DataW.lit.injEq, Lit.string.injEq] at this
        exact ByteArray.ext (Array.ext' this)
      subst e
      exact ⟨s, hr1, hr2, h1.1⟩
    obtain ⟨s, _, _, hs⟩ := hall w rfl
    refine ⟨s, fun W hW => ?_⟩
    obtain ⟨s', h1, h2, h3⟩ := hall W hW
    have e : s' = s := by
      have := h3.symm.trans hs
      simp only [DataW.lit.injEq, Lit.string.injEq] at this
      exact ByteArray.ext (Array.ext' this)
    subst e
    exact ⟨h1, h2⟩
  · exact ⟨_, fun W hW => (own_of_block hown hW).len Yba.underlying23 3⟩

theorem mapOk_made (w : World) (ks : Nat → ByteArray) : MapOk (w.alloc (.map #[] 0)) w.heap.size 0 ks :=
  ⟨.map [], World.ownsMap_made w _ _ _, fun i hi => absurd hi (Nat.not_lt_zero _)⟩

end Rd
end Go.Proofs.Ybulkayko
