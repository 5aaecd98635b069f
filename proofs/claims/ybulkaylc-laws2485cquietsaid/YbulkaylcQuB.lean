import Derived.Test.YbulkaylcQuA
import Derived.Test.YbulkaylcGrC
namespace Go.Proofs.Ybulkaylc
open Go.RowKit
set_option linter.unusedVariables false
namespace Qu
open Sw Gr

theorem i98 : (Yba.prog.info? 98).map (fun i => (i.zero, i.size, decide (i.bytes ≤ 256))) = some (some (.agg #[.int .i32 0, .int .i32 0]), 2, true) := by kernel_rfl
theorem i37 : (Yba.prog.info? 37).map (fun i => (i.zero, i.size, decide (i.bytes ≤ 256))) = some (some (.slice none 0 0), 1, true) := by kernel_rfl

theorem make96 (m : Nat) (hm : m + 1 ≤ 1024) (w : World) :
    ∃ o, (Instr.makeSlice 96 (.int .i64 ((m : Int) + 1)) (.int .i64 ((m : Int) + 1))).run Yba.prog w = .ok (.slice (some ⟨w.heap.size, 0, none⟩) (m + 1) (m + 1)) (w.alloc o) ∧ ∃ z, o = .cells (madeCells z ((m + 1) * 2)) 98 := by
  obtain ⟨i, hi, hzz⟩ := Option.map_eq_some_iff.1 i98
  simp only [Prod.mk.injEq] at hzz
  obtain ⟨hz, hs, hb⟩ := hzz
  have hb' : i.bytes ≤ 256 := of_decide_eq_true hb
  have hbm : (i.bytes : Int) * ((m : Int) + 1) ≤ 256 * 1024 := Int.mul_le_mul (by omega) (by omega) (by omega) (by omega)
  have hr := run_make (P := Yba.prog) w 96 98 i _ Yba.underlying96 hi hz .i64 .i64 ((m : Int) + 1) ((m : Int) + 1) (by omega) (by omega) (by omega) (by omega)
  rw [hs] at hr
  have e : ((m : Int) + 1).toNat = m + 1 := by omega
  rw [e] at hr
  exact ⟨_, hr, _, rfl⟩

/-- What the filling loop keeps. -/
structure FillQ (w wr : World) (m k : Nat) : Prop where
  size : wr.heap.size = w.heap.size + 2 + k
  bel : Below w.heap.size w wr
  tT : There wr w.heap.size ((m + 1) * 11)
  fT : Free wr w.heap.size
  tB : There wr (w.heap.size + 1) ((m + 1) * 2)
  fB : Free wr (w.heap.size + 1)
  cT : ∀ i, i < k → wr.cell? ⟨w.heap.size, i * 11, none⟩ = some (.slice (some ⟨w.heap.size + 2 + i, 0, none⟩) 1 1)
  r0 : ∀ i, i < k → wr.cell? ⟨w.heap.size + 1, i * 2, none⟩ = some (.int .i32 i)
  r1 : ∀ i, i < k → wr.cell? ⟨w.heap.size + 1, i * 2 + 1, none⟩ = some (.int .i32 0)
  u0 : ∀ i, i < k → wr.cell? ⟨w.heap.size + 2 + i, 0, none⟩ = some (.int .i32 0)
  u3 : ∀ i, i < k → wr.cell? ⟨w.heap.size + 2 + i, 3, none⟩ = some (.bool false)
  u5 : ∀ i, i < k → wr.cell? ⟨w.heap.size + 2 + i, 5, none⟩ = some (.int .i32 i)
  fU : ∀ i, i < k → Free wr (w.heap.size + 2 + i)

def rndQ (wr : World) (N k : Nat) : World :=
  (((wr.setCell ⟨N, k * 11, none⟩ (.slice (some ⟨N + 2 + k, 0, none⟩) 1 1)).setCell ⟨N + 1, k * 2, none⟩ (.int .i32 k)).setCell ⟨N + 1, k * 2 + 1, none⟩ (.int .i32 0)).alloc (.cells #[.int .i32 0, .int .u8 0, .int .u8 0, .bool false, .bool false, .int .i32 k, .int .i32 0, .int .i32 0, .int .i32 0] 86)

theorem FillQ.start (w : World) (m : Nat) (o1 o2 : Obj) (z1 z2 : Array Value) (e1 : o1 = .cells (madeCells z1 ((m + 1) * 11)) 90) (e2 : o2 = .cells (madeCells z2 ((m + 1) * 2)) 98) : FillQ w ((w.alloc o1).alloc o2) m 0 := by
  have t : Tch (fun _ => False) w ((w.alloc o1).alloc o2) := ((Tch.refl _ w).alloc _).alloc _
  have b1 : ((w.alloc o1).alloc o2).heap[w.heap.size]? = some (.cells (madeCells z1 ((m + 1) * 11)) 90) := by rw [Below.heap_alloc _ _ _ (by simp), ← e1]; exact block_new _ _
  have b2 : ((w.alloc o1).alloc o2).heap[w.heap.size + 1]? = some (.cells (madeCells z2 ((m + 1) * 2)) 98) := by
    have := block_new (w.alloc o1) o2
    rw [show (w.alloc o1).heap.size = w.heap.size + 1 by simp] at this
    rw [this, e2]
  refine ⟨by simp, ⟨t.os, t.tape, t.output, t.size, fun x hx => t.block x hx (fun e => e)⟩, there_made b1, free_made b1, there_made b2, free_made b2, ?_, ?_, ?_, ?_, ?_, ?_, ?_⟩
  all_goals (intro i hi; omega)

theorem FillQ.step {w wr : World} {m k : Nat} (h : FillQ w wr m k) (hk : k < m + 1) : FillQ w (rndQ wr w.heap.size k) m (k + 1) := by
  have hz := h.size
  generalize hA : ((wr.setCell ⟨w.heap.size, k * 11, none⟩ (.slice (some ⟨w.heap.size + 2 + k, 0, none⟩) 1 1)).setCell ⟨w.heap.size + 1, k * 2, none⟩ (.int .i32 k)).setCell ⟨w.heap.size + 1, k * 2 + 1, none⟩ (.int .i32 0) = A
  have t1 : Tch (fun x => x = w.heap.size ∨ x = w.heap.size + 1) wr A := by
    rw [← hA]
    exact (((Tch.refl (fun x => x = w.heap.size ∨ x = w.heap.size + 1) wr).setCell (p := ⟨w.heap.size, k * 11, none⟩) (Or.inl rfl) _).setCell (p := ⟨w.heap.size + 1, k * 2, none⟩) (Or.inr rfl) _).setCell (p := ⟨w.heap.size + 1, k * 2 + 1, none⟩) (Or.inr rfl) _
  have hzA : A.heap.size = w.heap.size + 2 + k := by rw [← hA]; simp [World.setCell, hz]
  have tA : There A w.heap.size ((m + 1) * 11) := by rw [← hA]; exact ((h.tT.set _ _).set _ _).set _ _
  have fA : Free A w.heap.size := by rw [← hA]; exact ((h.fT.set _ _).set _ _).set _ _
  have tA' : There A (w.heap.size + 1) ((m + 1) * 2) := by rw [← hA]; exact ((h.tB.set _ _).set _ _).set _ _
  have fA' : Free A (w.heap.size + 1) := by rw [← hA]; exact ((h.fB.set _ _).set _ _).set _ _
  obtain ⟨x, hx⟩ := h.tT (k * 11) (by omega)
  obtain ⟨y, hy⟩ := h.tB (k * 2) (by omega)
  obtain ⟨y1, hy1⟩ := h.tB (k * 2 + 1) (by omega)
  have ck : A.cell? ⟨w.heap.size, k * 11, none⟩ = some (.slice (some ⟨w.heap.size + 2 + k, 0, none⟩) 1 1) := by
    rw [← hA, World.cell?_setCell_other _ _ _ _ (fun e => by injection e; omega), World.cell?_setCell_other _ _ _ _ (fun e => by injection e; omega)]
    exact World.cell?_setCell_same _ _ _ hx
  have co : ∀ i, i < k → A.cell? ⟨w.heap.size, i * 11, none⟩ = wr.cell? ⟨w.heap.size, i * 11, none⟩ := fun i hi => by
    rw [← hA, World.cell?_setCell_other _ _ _ _ (fun e => by injection e; omega), World.cell?_setCell_other _ _ _ _ (fun e => by injection e; omega), World.cell?_setCell_other _ _ _ _ (fun e => by injection e; omega)]
  have k0 : A.cell? ⟨w.heap.size + 1, k * 2, none⟩ = some (.int .i32 k) := by
    rw [← hA, World.cell?_setCell_other _ _ _ _ (fun e => by injection e; omega)]
    exact World.cell?_setCell_same _ _ _ ((World.cell?_setCell_other _ _ _ _ (fun e => by injection e; omega)).trans hy)
  have k1 : A.cell? ⟨w.heap.size + 1, k * 2 + 1, none⟩ = some (.int .i32 0) := by
    rw [← hA]
    exact World.cell?_setCell_same _ _ _ ((World.cell?_setCell_other _ _ _ _ (fun e => by injection e; omega)).trans ((World.cell?_setCell_other _ _ _ _ (fun e => by injection e; omega)).trans hy1))
  have ko : ∀ i d, i < k → d < 2 → A.cell? ⟨w.heap.size + 1, i * 2 + d, none⟩ = wr.cell? ⟨w.heap.size + 1, i * 2 + d, none⟩ := fun i d hi hd => by
    rw [← hA, World.cell?_setCell_other _ _ _ _ (fun e => by injection e; omega), World.cell?_setCell_other _ _ _ _ (fun e => by injection e; omega), World.cell?_setCell_other _ _ _ _ (fun e => by injection e; omega)]
  have hR : rndQ wr w.heap.size k = A.alloc (.cells #[.int .i32 0, .int .u8 0, .int .u8 0, .bool false, .bool false, .int .i32 k, .int .i32 0, .int .i32 0, .int .i32 0] 86) := by rw [← hA]; rfl
  have t2 : Tch (fun _ => False) A (rndQ wr w.heap.size k) := by rw [hR]; exact (Tch.refl _ A).alloc _
  have bn : (rndQ wr w.heap.size k).heap[w.heap.size + 2 + k]? = some (.cells #[.int .i32 0, .int .u8 0, .int .u8 0, .bool false, .bool false, .int .i32 k, .int .i32 0, .int .i32 0, .int .i32 0] 86) := by
    rw [hR, ← hzA]; exact block_new _ _
  have sz : (rndQ wr w.heap.size k).heap.size = w.heap.size + 2 + (k + 1) := by rw [hR]; simp [hzA]; omega
  generalize rndQ wr w.heap.size k = R at *
  have hrec : ∀ {p : Nat → Prop}, (∀ i, i < k → p i) → p k → ∀ i, i < k + 1 → p i := fun {p} h1 h2 i hi => by
    rcases Nat.lt_or_ge i k with h' | h'
    · exact h1 i h'
    · obtain rfl : i = k := by omega
      exact h2
  have hU : ∀ {i o v}, i < k → wr.cell? ⟨w.heap.size + 2 + i, o, none⟩ = some v → R.cell? ⟨w.heap.size + 2 + i, o, none⟩ = some v := fun {i o v} hi hv => t2.cell (t1.cell hv (by show ¬ (w.heap.size + 2 + i = w.heap.size ∨ w.heap.size + 2 + i = w.heap.size + 1); omega)) (fun e => e)
  refine ⟨sz, ?_, ?_, Free.tch fA t2 (by omega) (fun e => e), ?_, Free.tch fA' t2 (by omega) (fun e => e), ?_, ?_, ?_, ?_, ?_, ?_, ?_⟩
  · exact ⟨t2.os.trans (t1.os.trans h.bel.os), t2.tape.trans (t1.tape.trans h.bel.tape), t2.output.trans (t1.output.trans h.bel.output), by rw [sz]; omega, fun x hx => (t2.block x (by omega) (fun e => e)).trans ((t1.block x (by omega) (by omega)).trans (h.bel.block x hx))⟩
  · intro j hj; obtain ⟨y, hy⟩ := tA j hj; exact ⟨y, t2.cell hy (fun e => e)⟩
  · intro j hj; obtain ⟨y, hy⟩ := tA' j hj; exact ⟨y, t2.cell hy (fun e => e)⟩
  · exact hrec (fun i hi => t2.cell ((co i hi).trans (h.cT i hi)) (fun e => e)) (t2.cell ck (fun e => e))
  · exact hrec (fun i hi => t2.cell ((ko i 0 hi (by omega)).trans (h.r0 i hi)) (fun e => e)) (t2.cell k0 (fun e => e))
  · exact hrec (fun i hi => t2.cell ((ko i 1 hi (by omega)).trans (h.r1 i hi)) (fun e => e)) (t2.cell k1 (fun e => e))
  · exact hrec (fun i hi => hU hi (h.u0 i hi)) (cell_block bn 0)
  · exact hrec (fun i hi => hU hi (h.u3 i hi)) (cell_block bn 3)
  · exact hrec (fun i hi => hU hi (h.u5 i hi)) (cell_block bn 5)
  · exact hrec (fun i hi => Free.tch (Free.tch (h.fU i hi) t1 (by omega) (by omega)) t2 (by omega) (fun e => e)) (free_made bn)

/-- A make of a row whose cells nobody reads: what it makes, whatever it holds. -/
theorem make57 (m : Nat) (hm : m + 1 ≤ 1024) (w : World) :
    ∃ o, (Instr.makeSlice 57 (.int .i64 ((m : Int) + 1)) (.int .i64 ((m : Int) + 1))).run Yba.prog w = .ok (.slice (some ⟨w.heap.size, 0, none⟩) (m + 1) (m + 1)) (w.alloc o) := by
  obtain ⟨i, hi, hzz⟩ := Option.map_eq_some_iff.1 i37
  simp only [Prod.mk.injEq] at hzz
  obtain ⟨hz, hs, hb⟩ := hzz
  have hb' : i.bytes ≤ 256 := of_decide_eq_true hb
  have hbm : (i.bytes : Int) * ((m : Int) + 1) ≤ 256 * 1024 := Int.mul_le_mul (by omega) (by omega) (by omega) (by omega)
  have hr := run_make (P := Yba.prog) w 57 37 i _ Yba.underlying57 hi hz .i64 .i64 ((m : Int) + 1) ((m : Int) + 1) (by omega) (by omega) (by omega) (by omega)
  rw [hs] at hr
  have e : ((m : Int) + 1).toNat = m + 1 := by omega
  rw [e] at hr
  exact ⟨_, hr⟩

theorem make37' (m : Nat) (hm : m + 1 ≤ 1024) :
    ∃ o, ∀ w : World, (Instr.makeSlice 37 (.int .i64 ((m : Int) + 1)) (.int .i64 ((m : Int) + 1))).run Yba.prog w = .ok (.slice (some ⟨w.heap.size, 0, none⟩) (m + 1) (m + 1)) (w.alloc o) := by
  obtain ⟨i, hi, hzz⟩ := Option.map_eq_some_iff.1 i21
  simp only [Prod.mk.injEq] at hzz
  obtain ⟨hz, hs, hb⟩ := hzz
  have hb' : i.bytes ≤ 256 := of_decide_eq_true hb
  have hbm : (i.bytes : Int) * ((m : Int) + 1) ≤ 256 * 1024 := Int.mul_le_mul (by omega) (by omega) (by omega) (by omega)
  have e : ((m : Int) + 1).toNat = m + 1 := by omega
  refine ⟨.cells (madeCells (Value.int .i32 0).cells (m + 1)) 21, fun w => ?_⟩
  have hr := run_make (P := Yba.prog) w 37 21 i _ Yba.underlying37 hi hz .i64 .i64 ((m : Int) + 1) ((m : Int) + 1) (by omega) (by omega) (by omega) (by omega)
  rw [hs, e, Nat.mul_one] at hr
  exact hr

theorem make57' (m : Nat) (hm : m + 1 ≤ 1024) :
    ∃ o, ∀ w : World, (Instr.makeSlice 57 (.int .i64 ((m : Int) + 1)) (.int .i64 ((m : Int) + 1))).run Yba.prog w = .ok (.slice (some ⟨w.heap.size, 0, none⟩) (m + 1) (m + 1)) (w.alloc o) := by
  obtain ⟨i, hi, hzz⟩ := Option.map_eq_some_iff.1 i37
  simp only [Prod.mk.injEq] at hzz
  obtain ⟨hz, hs, hb⟩ := hzz
  have hb' : i.bytes ≤ 256 := of_decide_eq_true hb
  have hbm : (i.bytes : Int) * ((m : Int) + 1) ≤ 256 * 1024 := Int.mul_le_mul (by omega) (by omega) (by omega) (by omega)
  have e : ((m : Int) + 1).toNat = m + 1 := by omega
  refine ⟨.cells (madeCells (Value.slice none 0 0).cells (m + 1)) 37, fun w => ?_⟩
  have hr := run_make (P := Yba.prog) w 57 37 i _ Yba.underlying57 hi hz .i64 .i64 ((m : Int) + 1) ((m : Int) + 1) (by omega) (by omega) (by omega) (by omega)
  rw [hs, e, Nat.mul_one] at hr
  exact hr

end Qu
end Go.Proofs.Ybulkaylc
