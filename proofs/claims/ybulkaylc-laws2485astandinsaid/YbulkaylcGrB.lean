import Derived.Test.YbulkaylcGrA
import Derived.Test.YbulkaylcSwE
import Derived.ArgAppend
import Derived.Lib.AppendZeros
namespace Go.Proofs.Ybulkaylc
open Go.RowKit
set_option linter.unusedVariables false
namespace Gr
open Sw

/-- What the two filling loops keep. -/
structure FilW (w wr : World) (n c : Nat) (g tx pos E : Nat → Nat) : Prop where
  size : wr.heap.size = w.heap.size + 3 + c
  bel : Below w.heap.size w wr
  tP : There wr w.heap.size n
  fP : Free wr w.heap.size
  cP : ∀ p, p < c → wr.cell? ⟨w.heap.size, tx p, none⟩ = some (.int .i32 (pos (tx p)))
  tH : There wr (w.heap.size + 1) (n * 6)
  fH : Free wr (w.heap.size + 1)
  r0 : ∀ i, i < c → wr.cell? ⟨w.heap.size + 1, i * 6, none⟩ = some (.int .i32 (tx i))
  r1 : ∀ i, i < c → wr.cell? ⟨w.heap.size + 1, i * 6 + 1, none⟩ = some (.int .i32 (-1))
  r2 : ∀ i, i < c → wr.cell? ⟨w.heap.size + 1, i * 6 + 2, none⟩ = some (.int .i32 0)
  r3 : ∀ i, i < c → wr.cell? ⟨w.heap.size + 1, i * 6 + 3, none⟩ = some (.int .u8 0)
  r4 : ∀ i, i < c → wr.cell? ⟨w.heap.size + 1, i * 6 + 4, none⟩ = some (.int .u8 ((g (tx i) : Nat) + 1))
  r5 : ∀ i, i < c → wr.cell? ⟨w.heap.size + 1, i * 6 + 5, none⟩ = some (.bool false)
  cE : ∀ q, q < 5 → wr.cell? ⟨w.heap.size + 2, q, none⟩ = some (.int .i32 (E q))
  fE : Free wr (w.heap.size + 2)

/-- One holder is laid. -/
def stp (wr : World) (N i c k : Nat) : World :=
  six ((wr.setCell ⟨N, i, none⟩ (.int .i32 c)).alloc (.cells #[.int .i32 i, .int .i32 (-1), .int .i32 0, .int .u8 0, .int .u8 ((k : Nat) + 1), .bool false] 84)) (N + 1) (c * 6) (.int .i32 i) (.int .i32 (-1)) (.int .i32 0) (.int .u8 0) (.int .u8 ((k : Nat) + 1)) (.bool false)

theorem Free.tch {S : Nat → Prop} {w w' : World} {b : Nat} (h : Free w b) (t : Tch S w w') (hb : b < w.heap.size) (hs : ¬ S b) : Free w' b := fun j =>
  (World.frozen?_of_block (w := w) (a := ⟨b, j, none⟩) (t.block b hb hs)).trans (h j)

set_option maxHeartbeats 800000 in
theorem FilW.take {w wr : World} {n c i k : Nat} {g tx pos E : Nat → Nat} (h : FilW w wr n c g tx pos E) (hi : i < n) (hc : c < n) (hg : g i = k) (hnew : ∀ p, p < c → tx p ≠ i) :
    FilW w (stp wr w.heap.size i c k) n (c + 1) g (put tx c i) (put pos i c) E := by
  have hz := h.size
  generalize hA : (wr.setCell ⟨w.heap.size, i, none⟩ (.int .i32 c)).alloc (.cells #[.int .i32 i, .int .i32 (-1), .int .i32 0, .int .u8 0, .int .u8 ((k : Nat) + 1), .bool false] 84) = A
  have t1 : Tch (fun x => x = w.heap.size) wr A := by rw [← hA]; exact ((Tch.refl (fun x => x = w.heap.size) wr).setCell (p := ⟨w.heap.size, i, none⟩) rfl _).alloc _
  have hzA : A.heap.size = w.heap.size + 3 + c + 1 := by rw [← hA]; simp [World.setCell, hz]
  have tPA : There A w.heap.size n := by rw [← hA]; exact (h.tP.set _ _).alloc _
  have fPA : Free A w.heap.size := by rw [← hA]; exact Free.alloc (h.fP.set _ _) (by simp [World.setCell, hz]; omega) _
  obtain ⟨x, hx⟩ := h.tP i hi
  have cPi : A.cell? ⟨w.heap.size, i, none⟩ = some (.int .i32 c) := by
    rw [← hA, World.cell?_of_block (w := wr.setCell ⟨w.heap.size, i, none⟩ (.int .i32 c)) (Below.heap_alloc _ _ _ (by simp [World.setCell, hz]; omega))]
    exact World.cell?_setCell_same _ _ _ hx
  have cPo : ∀ t, t ≠ i → A.cell? ⟨w.heap.size, t, none⟩ = wr.cell? ⟨w.heap.size, t, none⟩ := fun t ht => by
    rw [← hA, World.cell?_of_block (w := wr.setCell ⟨w.heap.size, i, none⟩ (.int .i32 c)) (Below.heap_alloc _ _ _ (by simp [World.setCell, hz]; omega))]
    exact World.cell?_setCell_other _ _ _ _ (fun e => by injection e; omega)
  have hH1 : ¬ w.heap.size + 1 = w.heap.size := by omega
  have tHA : There A (w.heap.size + 1) (n * 6) := fun j hj => by obtain ⟨y, hy⟩ := h.tH j hj; exact ⟨y, t1.cell hy hH1⟩
  have fHA : Free A (w.heap.size + 1) := Free.tch h.fH t1 (by omega) hH1
  have hst : stp wr w.heap.size i c k = six A (w.heap.size + 1) (c * 6) (.int .i32 i) (.int .i32 (-1)) (.int .i32 0) (.int .u8 0) (.int .u8 ((k : Nat) + 1)) (.bool false) := by unfold stp; rw [hA]
  have hin := six_in A (w.heap.size + 1) (c * 6) (.int .i32 i) (.int .i32 (-1)) (.int .i32 0) (.int .u8 0) (.int .u8 ((k : Nat) + 1)) (.bool false) (fun j hj => by obtain ⟨x, hx⟩ := tHA (c * 6 + j) (by omega); rw [hx]; rfl)
  have hrow : ∀ p d, p < c → d < 6 → (six A (w.heap.size + 1) (c * 6) (.int .i32 i) (.int .i32 (-1)) (.int .i32 0) (.int .u8 0) (.int .u8 ((k : Nat) + 1)) (.bool false)).cell? ⟨w.heap.size + 1, p * 6 + d, none⟩ = A.cell? ⟨w.heap.size + 1, p * 6 + d, none⟩ :=
    fun p d hp hd => six_out _ _ _ _ _ _ _ _ _ _ (fun _ _ => by show p * 6 + d < c * 6 ∨ c * 6 + 6 ≤ p * 6 + d; omega)
  have t2 : Tch (fun x => x = w.heap.size + 1) A (stp wr w.heap.size i c k) := by rw [hst]; exact six_tch _ _ _ _ _ _ _ _ _ rfl
  have tH2 : There (stp wr w.heap.size i c k) (w.heap.size + 1) (n * 6) := by rw [hst]; exact tHA.six _ _ _ _ _ _ _ _
  have fH2 : Free (stp wr w.heap.size i c k) (w.heap.size + 1) := by rw [hst]; exact fHA.six _ _ _ _ _ _ _ _
  have sz : (stp wr w.heap.size i c k).heap.size = w.heap.size + 3 + (c + 1) := by rw [hst]; simp [six, World.setCell, hzA]; omega
  rw [← hst] at hin
  rw [← hst] at hrow
  generalize stp wr w.heap.size i c k = R at *
  have hN1 : ¬ w.heap.size = w.heap.size + 1 := by omega
  have hN2 : ¬ w.heap.size + 2 = w.heap.size + 1 := by omega
  have hN3 : ¬ w.heap.size + 2 = w.heap.size := by omega
  have hrec : ∀ {p : Nat → Prop}, (∀ i, i < c → p i) → p c → ∀ i, i < c + 1 → p i := fun {p} h1 h2 i hi => by
    rcases Nat.lt_or_ge i c with h' | h'
    · exact h1 i h'
    · obtain rfl : i = c := by omega
      exact h2
  have ho : ∀ p, p < c → put tx c i p = tx p := fun p hp => put_other _ _ (by omega)
  refine ⟨sz, ?_, ?_, ?_, ?_, tH2, fH2, ?_, ?_, ?_, ?_, ?_, ?_, ?_, ?_⟩
  · exact ⟨t2.os.trans (t1.os.trans h.bel.os), t2.tape.trans (t1.tape.trans h.bel.tape), t2.output.trans (t1.output.trans h.bel.output), by rw [sz]; omega, fun x hx => (t2.block x (by omega) (by omega)).trans ((t1.block x (by omega) (by omega)).trans (h.bel.block x hx))⟩
  · intro j hj; obtain ⟨y, hy⟩ := tPA j hj; exact ⟨y, t2.cell hy hN1⟩
  · exact Free.tch fPA t2 (by omega) hN1
  · refine hrec (fun p hp => ?_) ?_
    · rw [ho p hp, put_other _ _ (hnew p hp)]
      exact t2.cell ((cPo _ (hnew p hp)).trans (h.cP p hp)) hN1
    · rw [put_same, put_same]
      exact t2.cell cPi hN1
  · exact hrec (fun p hp => by rw [ho p hp]; exact (hrow p 0 hp (by omega)).trans (t1.cell (h.r0 p hp) hH1)) (by rw [put_same]; exact hin.1)
  · exact hrec (fun p hp => (hrow p 1 hp (by omega)).trans (t1.cell (h.r1 p hp) hH1)) hin.2.1
  · exact hrec (fun p hp => (hrow p 2 hp (by omega)).trans (t1.cell (h.r2 p hp) hH1)) hin.2.2.1
  · exact hrec (fun p hp => (hrow p 3 hp (by omega)).trans (t1.cell (h.r3 p hp) hH1)) hin.2.2.2.1
  · exact hrec (fun p hp => by rw [ho p hp]; exact (hrow p 4 hp (by omega)).trans (t1.cell (h.r4 p hp) hH1)) (by rw [put_same, hg]; exact hin.2.2.2.2.1)
  · exact hrec (fun p hp => (hrow p 5 hp (by omega)).trans (t1.cell (h.r5 p hp) hH1)) hin.2.2.2.2.2
  · exact fun q hq => t2.cell (t1.cell (h.cE q hq) hN3) hN2
  · exact Free.tch (Free.tch h.fE t1 (by omega) hN3) t2 (by omega) hN2

/-- A group's end is laid. -/
theorem FilW.fin {w wr : World} {n c k : Nat} {g tx pos E : Nat → Nat} (h : FilW w wr n c g tx pos E) (hk : k < 5) :
    FilW w (wr.setCell ⟨w.heap.size + 2, k, none⟩ (.int .i32 c)) n c g tx pos (put E k c) := by
  have t : Tch (fun x => x = w.heap.size + 2) wr (wr.setCell ⟨w.heap.size + 2, k, none⟩ (.int .i32 c)) := (Tch.refl (fun x => x = w.heap.size + 2) wr).setCell (p := ⟨w.heap.size + 2, k, none⟩) rfl _
  have hz := h.size
  have a0 : ¬ w.heap.size = w.heap.size + 2 := by omega
  have a1 : ¬ w.heap.size + 1 = w.heap.size + 2 := by omega
  refine ⟨by simp [World.setCell, hz], ?_, h.tP.set _ _, h.fP.set _ _, fun p hp => t.cell (h.cP p hp) a0, h.tH.set _ _, h.fH.set _ _, fun p hp => t.cell (h.r0 p hp) a1, fun p hp => t.cell (h.r1 p hp) a1, fun p hp => t.cell (h.r2 p hp) a1, fun p hp => t.cell (h.r3 p hp) a1, fun p hp => t.cell (h.r4 p hp) a1, fun p hp => t.cell (h.r5 p hp) a1, fun q hq => ?_, h.fE.set _ _⟩
  · exact ⟨t.os.trans h.bel.os, t.tape.trans h.bel.tape, t.output.trans h.bel.output, Nat.le_trans h.bel.size t.size, fun x hx => (t.block x (by omega) (by omega)).trans (h.bel.block x hx)⟩
  · by_cases e : q = k
    · subst e; rw [put_same]; exact World.cell?_setCell_same _ _ _ (h.cE q hq)
    · rw [put_other _ _ e, World.cell?_setCell_other _ _ _ _ (fun e' => by injection e'; omega)]; exact h.cE q hq

/-- An append with room, one row of six. -/
theorem app82 (W : World) (H c n T : Nat) (i : Nat) (k : Nat) (hc : c < n) (tH : There W H (n * 6)) (fH : Free W H)
    (hT : W.heap[T]? = some (.cells #[.int .i32 i, .int .i32 (-1), .int .i32 0, .int .u8 0, .int .u8 ((k : Nat) + 1), .bool false] 84)) (ty : TypeId) :
    (Builtin.append_ #[82, 82] ty #[.slice (some ⟨H, 0, none⟩) c n, .slice (some ⟨T, 0, none⟩) 1 1]).run Yba.prog W = .ok (.slice (some ⟨H, 0, none⟩) (c + 1) n) (six W H (c * 6) (.int .i32 i) (.int .i32 (-1)) (.int .i32 0) (.int .u8 0) (.int .u8 ((k : Nat) + 1)) (.bool false)) := by
  obtain ⟨inf, hi, hzz⟩ := Option.map_eq_some_iff.1 i84
  simp only [Prod.mk.injEq] at hzz
  obtain ⟨hz, hs, hb⟩ := hzz
  have hr := run_append_room_cells (P := Yba.prog) W 82 ty 84 inf Yba.underlying82 hi H 0 c n ⟨T, 0, none⟩ 1 1 [.int .i32 i, .int .i32 (-1), .int .i32 0, .int .u8 0, .int .u8 ((k : Nat) + 1), .bool false] (by rw [hs]; rfl)
    (fun j u hj => by rw [Addr.add_lit, Nat.zero_add]; rw [cell_block hT j]; simpa using hj) (by intro u hu; simp at hu; rcases hu with rfl | rfl | rfl | rfl | rfl | rfl <;> rfl) (by omega)
    (fun j hj => by rw [hs, Nat.zero_add]; have : j < 6 := hj; obtain ⟨x, hx⟩ := tH (c * 6 + j) (by omega); rw [hx]; rfl) (fun j _ => fH _)
  rw [hs, Nat.zero_add] at hr
  exact hr

end Gr
end Go.Proofs.Ybulkaylc
