import Derived.Test.YbulkaykoRdB
import Derived.Deep.QuietTactic
import Derived.BigQuiet
import Derived.Maps.OwnSet
import Derived.Maps.StringElems
namespace Go.Proofs.Ybulkayko
open Go.RowKit
set_option linter.unusedVariables false
namespace Rd

/-- What the look-ups of the map in block M answer at the keys ks 0 .. ks (len - 1), in whatever world that holds that block; and what len says. -/
structure Looks (w : World) (M len : Nat) (ks : Nat → ByteArray) : Prop where
  lt : M < w.heap.size
  at_ : ∀ i, i < len → ∃ s : ByteArray, ∀ W : World, W.heap[M]? = w.heap[M]? → (Instr.lookup 23 (.map (some M)) (.string (ks i)) true).run Yba.prog W = .ok (.tuple #[.string s, .bool true]) W ∧ (Instr.lookup 23 (.map (some M)) (.string (ks i)) false).run Yba.prog W = .ok (.string s) W
  len_ : ∃ n : Int, ∀ W : World, W.heap[M]? = w.heap[M]? → (Builtin.len_ #[23] 3 #[.map (some M)]).run Yba.prog W = .ok (.int .i64 n) W

theorem Looks.of_block {w w' : World} {M len : Nat} {ks : Nat → ByteArray} (h : Looks w M len ks) (hb : w'.heap[M]? = w.heap[M]?) (hlt : M < w'.heap.size) : Looks w' M len ks := by
  refine ⟨hlt, fun i hi => ?_, ?_⟩
  · obtain ⟨s, hs⟩ := h.at_ i hi
    exact ⟨s, fun W hW => hs W (hW.trans hb)⟩
  · obtain ⟨n, hn⟩ := h.len_
    exact ⟨n, fun W hW => hn W (hW.trans hb)⟩

theorem hide {p : Prop} (h : p) : Hid p := h

theorem Lk.of_block {w w' : World} {S : Nat} {s rc : Int} (h : Lk w S s rc) (hb : w'.heap[S]? = w.heap[S]?) : Lk w' S s rc := by
  have hc : ∀ j, w'.cell? ⟨S, j, none⟩ = w.cell? ⟨S, j, none⟩ := fun j => World.cell?_of_block hb
  have hf : ∀ j, w'.frozen? ⟨S, j, none⟩ = w.frozen? ⟨S, j, none⟩ := fun j => World.frozen?_of_block hb
  exact ⟨by rw [hc]; exact h.c9, by rw [hc]; exact h.c10, by rw [hc]; exact h.c11, by rw [hc]; exact h.c12, by rw [hc]; exact h.c13, fun j => by rw [hf]; exact h.fz j⟩

theorem block_new (w : World) (o : Obj) : (w.alloc o).heap[w.heap.size]? = some o := by
  show (w.heap.push o)[w.heap.size]? = _; simp
theorem cell_new (w : World) (cs : Array Value) (t : TypeId) (n j : Nat) (hn : n = w.heap.size) : (w.alloc (.cells cs t)).cell? ⟨n, j, none⟩ = cs[j]? := by
  subst hn
  unfold World.cell?
  rw [block_new]
  simp

theorem below_drewN {B : Nat} {a w : World} (h : Below B a w) (n : Nat) : Below B a (w.drewN n) := ⟨h.os, h.tape, h.output, h.size, h.block⟩

/-- What a call leaves that has turned the counter (block C), the lock's words in block S, and new blocks alone. -/
structure Fr (B C S : Nat) (w w' : World) : Prop where
  os : w'.os = w.os
  tape : w'.tape = w.tape
  output : w'.output = w.output
  size : B ≤ w'.heap.size
  block : ∀ k, k < B → k ≠ C → k ≠ S → w'.heap[k]? = w.heap[k]?

set_option maxRecDepth 100000 in
set_option maxHeartbeats 800000 in
theorem closure (b off len cap N : Nat) (ks : Nat → ByteArray) (w : World) (hlen : len ≤ 1024) (hz : w.heap.size = N + 8)
    (cC : w.cell? ⟨N + 6, 0, none⟩ = some (.int .i64 0)) (cS : w.cell? ⟨N + 5, 0, none⟩ = some (.pointer (some ⟨N + 4, 0, none⟩))) (cO : w.cell? ⟨N + 7, 0, none⟩ = some (.bool true)) (cM : w.cell? ⟨N + 2, 0, none⟩ = some (.map (some (N + 1)))) (cK : w.cell? ⟨N, 0, none⟩ = some (.slice (some ⟨b, off, none⟩) len cap))
    (fC : w.frozen? ⟨N + 6, 0, none⟩ = false) (hlk : Lk w (N + 4) 0 1) (hL : Looks w (N + 1) len ks) (hb : b < N) (hK : ∀ i, i < len → w.cell? ⟨b, off + i, none⟩ = some (.string (ks i))) :
    Calls Yba.prog 6 #[.agg #[.map (some (N + 1)), .map (some (N + 3))], .pointer (some ⟨N + 6, 0, none⟩), .pointer (some ⟨N + 5, 0, none⟩), .pointer (some ⟨N + 7, 0, none⟩), .pointer (some ⟨N + 2, 0, none⟩), .pointer (some ⟨N, 0, none⟩)] w fun e w' => e = .returned (.tuple #[]) ∧ Fr (N + 8) (N + 6) (N + 4) w w' ∧ Lk w' (N + 4) 0 1 ∧ w'.cell? ⟨N + 6, 0, none⟩ = some (.int .i64 1) := by
  have HL := hide hlk
  have HLo := hide hL
  have HK := hide hK
  clear hlk hL hK
  go_enter Yba.func6, Yba.ntmps6
  go_wp2_with fail
  generalize hW1 : (w.setCell ⟨N + 6, 0, none⟩ (.int .i64 1)).alloc (.cells #[.map (some (N + 1)), .map (some (N + 3))] 27) = W1
  have b1 : ∀ k, k < N + 8 → k ≠ N + 6 → W1.heap[k]? = w.heap[k]? := fun k h1 h2 => by
    rw [← hW1, Below.heap_alloc _ _ _ (by simp [World.setCell]; omega), Below.heap_setCell _ _ _ _ h2]
  have lk1 : Lk W1 (N + 4) 0 1 := HL.out.of_block (b1 _ (by omega) (by omega))
  refine (try_busy (N + 4) W1 lk1).mono ?_
  rintro e W2 ⟨rfl, lk2, kp2⟩
  have b2 : ∀ k, k < N + 8 → k ≠ N + 6 → k ≠ N + 4 → W2.heap[k]? = w.heap[k]? := fun k h1 h2 h3 => (kp2.block k h3).trans (b1 k h1 h2)
  have y8 : W2.cell? ⟨N + 8, 0, none⟩ = some (.map (some (N + 1))) := by
    rw [World.cell?_of_block (w := W1) (kp2.block (N + 8) (by omega)), ← hW1, cell_new _ _ _ _ _ (by simp [World.setCell, hz])]
    rfl
  have y6 : W2.cell? ⟨N + 6, 0, none⟩ = some (.int .i64 1) := by
    rw [World.cell?_of_block (w := W1) (kp2.block (N + 6) (by omega)), ← hW1, World.cell?_of_block (w := w.setCell ⟨N + 6, 0, none⟩ (.int .i64 1)) (Below.heap_alloc _ _ _ (by simp [World.setCell]; omega))]
    exact World.cell?_setCell_same _ _ _ cC
  have fr2 : Fr (N + 8) (N + 6) (N + 4) w W2 := ⟨by rw [kp2.os, ← hW1]; rfl, by rw [kp2.tape, ← hW1]; rfl, by rw [kp2.output, ← hW1]; rfl, by rw [kp2.size, ← hW1]; simp [World.setCell]; omega, b2⟩
  have yM : W2.cell? ⟨N + 2, 0, none⟩ = some (.map (some (N + 1))) := by rw [World.cell?_of_block (w := w) (b2 (N + 2) (by omega) (by omega) (by omega))]; exact cM
  have yK : W2.cell? ⟨N, 0, none⟩ = some (.slice (some ⟨b, off, none⟩) len cap) := by rw [World.cell?_of_block (w := w) (b2 N (by omega) (by omega) (by omega))]; exact cK
  obtain ⟨nm, hnm⟩ := HLo.out.len_
  have hln := hnm W2 (b2 (N + 1) (by omega) (by omega) (by omega))
  have HF := hide fr2
  have B2 := hide b2
  have Y6 := hide y6
  have LK := hide lk2
  clear b1 b2 hW1 kp2 hnm fr2 y6 lk2 lk1 HL cC cS cO cM cK fC
  go_wp2_with fail
  clear hln
  go_loopw [7] (fun i wr => ∃ k m : Nat, k ≤ len ∧ i = .int .i64 k ∧ wr = W2.drewN m) (fun i _ => len - (intOf i).toNat)
  case atStart => exact ⟨0, 0, Nat.zero_le _, rfl, rfl⟩
  case round =>
    obtain ⟨k, m, hk, rfl, hwr⟩ := hrel
    have z8 : wr.cell? ⟨N + 8, 0, none⟩ = some (.map (some (N + 1))) := by rw [hwr]; exact y8
    have zM : wr.cell? ⟨N + 2, 0, none⟩ = some (.map (some (N + 1))) := by rw [hwr]; exact yM
    have zK : wr.cell? ⟨N, 0, none⟩ = some (.slice (some ⟨b, off, none⟩) len cap) := by rw [hwr]; exact yK
    have HW := hide hwr
    by_cases hlt : k < len
    · have kc : wr.cell? ⟨b, off + k, none⟩ = some (.string (ks k)) := by
        rw [hwr]
        show W2.cell? _ = _
        rw [World.cell?_of_block (w := w) (B2.out b (by omega) (by omega) (by omega))]; exact HK.out k hlt
      obtain ⟨s, hs⟩ := HLo.out.at_ k hlt
      have hl1 : ∀ nn, (Instr.lookup 23 (.map (some (N + 1))) (.string (ks k)) true).run Yba.prog (wr.drewN nn) = .ok (.tuple #[.string s, .bool true]) (wr.drewN nn) := fun nn =>
        (hs _ (by rw [hwr]; exact B2.out (N + 1) (by omega) (by omega) (by omega))).1
      have hl2 : ∀ nn, (Instr.lookup 23 (.map (some (N + 1))) (.string (ks k)) false).run Yba.prog (wr.drewN nn) = .ok (.string s) (wr.drewN nn) := fun nn =>
        (hs _ (by rw [hwr]; exact B2.out (N + 1) (by omega) (by omega) (by omega))).2
      have hlt' : (k : Int) < (len : Int) := by omega
      clear hs hwr y8 yM yK
      go_wp2_with fail
      go_quiet (fail)
      go_wp2_with fail
      go_quiet (fail)
      go_wp2_with fail
      go_roundw
      case rel => exact ⟨k + 1, _, by omega, by go_num, by rw [HW.out, World.drewN_drewN]⟩
      case measure => simp [intOf]; omega
    · clear hwr y8 yM yK
      go_wp2_with fail
      go_end0
      have hwr := HW.out
      subst hwr
      exact ⟨rfl, ⟨HF.out.os, HF.out.tape, HF.out.output, HF.out.size, HF.out.block⟩, LK.out.of_block rfl, Y6.out⟩

set_option maxRecDepth 100000 in
set_option maxHeartbeats 800000 in
theorem read (b off len cap N : Nat) (ks : Nat → ByteArray) (w : World) (hlen : len ≤ 1024) (hz : w.heap.size = N + 8)
    (cC : w.cell? ⟨N + 6, 0, none⟩ = some (.int .i64 0)) (cS : w.cell? ⟨N + 5, 0, none⟩ = some (.pointer (some ⟨N + 4, 0, none⟩))) (cO : w.cell? ⟨N + 7, 0, none⟩ = some (.bool true)) (cM : w.cell? ⟨N + 2, 0, none⟩ = some (.map (some (N + 1)))) (cK : w.cell? ⟨N, 0, none⟩ = some (.slice (some ⟨b, off, none⟩) len cap))
    (c15 : w.cell? ⟨N + 4, 15, none⟩ = some (.map (some (N + 1)))) (c16 : w.cell? ⟨N + 4, 16, none⟩ = some (.map (some (N + 3))))
    (fC : w.frozen? ⟨N + 6, 0, none⟩ = false) (hlk : Lk w (N + 4) 0 0) (hL : Looks w (N + 1) len ks) (hb : b < N) (hK : ∀ i, i < len → w.cell? ⟨b, off + i, none⟩ = some (.string (ks i))) :
    Calls Yba.prog 5 #[.pointer (some ⟨N + 4, 0, none⟩), .func (.func 6) #[] #[.pointer (some ⟨N + 6, 0, none⟩), .pointer (some ⟨N + 5, 0, none⟩), .pointer (some ⟨N + 7, 0, none⟩), .pointer (some ⟨N + 2, 0, none⟩), .pointer (some ⟨N, 0, none⟩)]] w fun e w' => e = .returned (.tuple #[]) ∧ Fr (N + 8) (N + 6) (N + 4) w w' ∧ Lk w' (N + 4) 0 0 ∧ w'.cell? ⟨N + 6, 0, none⟩ = some (.int .i64 1) := by
  have HC := hide cC
  have HS := hide cS
  have HO := hide cO
  have HM := hide cM
  have HKk := hide cK
  have HK := hide hK
  have HL := hide hL
  have HFz := hide fC
  clear cC cS cO cM cK hK hL fC
  go_enter_defers Yba.func5, Yba.ntmps5
  go_wp2_with fail
  refine (rlock (N + 4) _ hlk).mono ?_
  rintro e w1 ⟨rfl, k1, kp1⟩
  have d15 := (kp1.cell 15 (by omega) (by omega)).trans c15
  have d16 := (kp1.cell 16 (by omega) (by omega)).trans c16
  have K1 := hide k1
  have KP := hide kp1
  clear k1 kp1 hlk
  go_wp2_with fail
  have bk := KP.out.block
  refine (closure b off len cap N ks w1 hlen (KP.out.size.trans hz) ?_ ?_ ?_ ?_ ?_ ?_ K1.out ?_ hb ?_).mono ?_
  · rw [World.cell?_of_block (w := w) (bk (N + 6) (by omega))]; exact HC.out
  · rw [World.cell?_of_block (w := w) (bk (N + 5) (by omega))]; exact HS.out
  · rw [World.cell?_of_block (w := w) (bk (N + 7) (by omega))]; exact HO.out
  · rw [World.cell?_of_block (w := w) (bk (N + 2) (by omega))]; exact HM.out
  · rw [World.cell?_of_block (w := w) (bk N (by omega))]; exact HKk.out
  · rw [World.frozen?_of_block (w := w) (bk (N + 6) (by omega))]; exact HFz.out
  · exact HL.out.of_block (bk (N + 1) (by omega)) (by rw [KP.out.size]; exact HL.out.lt)
  · intro i hi
    rw [World.cell?_of_block (w := w) (bk b (by omega))]; exact HK.out i hi
  rintro e w2 ⟨rfl, fr, lk2, y6⟩
  clear bk d15 d16
  have FR := hide fr
  have L2 := hide lk2
  have Y6 := hide y6
  clear fr lk2 y6
  go_wp2_with fail
  refine leaves_cons (f := 13) (args := #[.pointer (some ⟨N + 4, 9, none⟩)]) (by simp) (by simp [go_sem]) ?_
  refine (runlock (N + 4) .returning _ L2.out).mono ?_
  rintro e u' w'' ⟨rfl, rfl, lk3, kp3⟩
  have kp := KP.out
  have fr := FR.out
  exact ⟨_, results_none rfl _ _ _, rfl, ⟨by rw [kp3.os, fr.os, kp.os], by rw [kp3.tape, fr.tape, kp.tape], by rw [kp3.output, fr.output, kp.output], by rw [kp3.size]; exact fr.size, fun k h1 h2 h3 => by rw [kp3.block k h3, fr.block k h1 h2 h3, kp.block k h3]⟩, lk3, by rw [World.cell?_of_block (w := w2) (kp3.block (N + 6) (by omega))]; exact Y6.out⟩

end Rd
end Go.Proofs.Ybulkayko
