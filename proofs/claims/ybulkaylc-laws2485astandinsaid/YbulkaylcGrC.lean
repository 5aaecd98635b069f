import Derived.Test.YbulkaylcGrB
namespace Go.Proofs.Ybulkaylc
open Go.RowKit
set_option linter.unusedVariables false
namespace Gr
open Sw

theorem i21 : (Yba.prog.info? 21).map (fun i => (i.zero, i.size, decide (i.bytes ≤ 256))) = some (some (.int .i32 0), 1, true) := by kernel_rfl
theorem i4 : (Yba.prog.info? 4).map (fun i => (i.zero, i.size, decide (i.bytes ≤ 256))) = some (some (.bool false), 1, true) := by kernel_rfl

theorem make37 (m : Nat) (hm : m + 1 ≤ 1024) (w : World) :
    ∃ o, (Instr.makeSlice 37 (.int .i64 ((m : Int) + 1)) (.int .i64 ((m : Int) + 1))).run Yba.prog w = .ok (.slice (some ⟨w.heap.size, 0, none⟩) (m + 1) (m + 1)) (w.alloc o) ∧ ∃ z, o = .cells (madeCells z (m + 1)) 21 := by
  obtain ⟨i, hi, hzz⟩ := Option.map_eq_some_iff.1 i21
  simp only [Prod.mk.injEq] at hzz
  obtain ⟨hz, hs, hb⟩ := hzz
  have hb' : i.bytes ≤ 256 := of_decide_eq_true hb
  have hbm : (i.bytes : Int) * ((m : Int) + 1) ≤ 256 * 1024 := Int.mul_le_mul (by omega) (by omega) (by omega) (by omega)
  have hr := run_make (P := Yba.prog) w 37 21 i _ Yba.underlying37 hi hz .i64 .i64 ((m : Int) + 1) ((m : Int) + 1) (by omega) (by omega) (by omega) (by omega)
  rw [hs] at hr
  have e : ((m : Int) + 1).toNat = m + 1 := by omega
  rw [e, Nat.mul_one] at hr
  exact ⟨_, hr, _, rfl⟩

theorem make82z (m : Nat) (hm : m + 1 ≤ 1024) (w : World) :
    ∃ o, (Instr.makeSlice 82 (.int .i64 0) (.int .i64 ((m : Int) + 1))).run Yba.prog w = .ok (.slice (some ⟨w.heap.size, 0, none⟩) 0 (m + 1)) (w.alloc o) ∧ ∃ z, o = .cells (madeCells z ((m + 1) * 6)) 84 := by
  obtain ⟨i, hi, hzz⟩ := Option.map_eq_some_iff.1 i84
  simp only [Prod.mk.injEq] at hzz
  obtain ⟨hz, hs, hb⟩ := hzz
  have hb' : i.bytes ≤ 256 := of_decide_eq_true hb
  have hbm : (i.bytes : Int) * ((m : Int) + 1) ≤ 256 * 1024 := Int.mul_le_mul (by omega) (by omega) (by omega) (by omega)
  have hr := run_make (P := Yba.prog) w 82 84 i _ Yba.underlying82 hi hz .i64 .i64 0 ((m : Int) + 1) (by omega) (by omega) (by omega) (by omega)
  rw [hs] at hr
  have e : ((m : Int) + 1).toNat = m + 1 := by omega
  rw [e] at hr
  exact ⟨_, hr, _, rfl⟩

/-- The row of bools that 'seen' is. -/
theorem make34 (m : Nat) (hm : m + 1 ≤ 1024) (w : World) :
    ∃ o, (Instr.makeSlice 34 (.int .i64 ((m : Int) + 1)) (.int .i64 ((m : Int) + 1))).run Yba.prog w = .ok (.slice (some ⟨w.heap.size, 0, none⟩) (m + 1) (m + 1)) (w.alloc o) ∧ (∀ t, t < m + 1 → (w.alloc o).cell? ⟨w.heap.size, t, none⟩ = some (.bool false)) ∧ Free (w.alloc o) w.heap.size := by
  obtain ⟨i, hi, hzz⟩ := Option.map_eq_some_iff.1 i4
  simp only [Prod.mk.injEq] at hzz
  obtain ⟨hz, hs, hb⟩ := hzz
  have hb' : i.bytes ≤ 256 := of_decide_eq_true hb
  have hbm : (i.bytes : Int) * ((m : Int) + 1) ≤ 256 * 1024 := Int.mul_le_mul (by omega) (by omega) (by omega) (by omega)
  have hr := run_make (P := Yba.prog) w 34 4 i _ Yba.underlying34 hi hz .i64 .i64 ((m : Int) + 1) ((m : Int) + 1) (by omega) (by omega) (by omega) (by omega)
  rw [hs] at hr
  have e : ((m : Int) + 1).toNat = m + 1 := by omega
  rw [e, Nat.mul_one] at hr
  refine ⟨_, hr, fun t ht => ?_, free_made (block_new _ _)⟩
  rw [cell_block (block_new _ _)]
  simp [madeCells, Value.cells, ht, Nat.mod_one]

theorem start (w : World) (m : Nat) (g : Nat → Nat) (o1 o2 : Obj) (z1 z2 : Array Value) (e1 : o1 = .cells (madeCells z1 (m + 1)) 21) (e2 : o2 = .cells (madeCells z2 ((m + 1) * 6)) 84) (ty : TypeId) :
    FilW w (((w.alloc o1).alloc o2).alloc (.cells #[.int .i32 0, .int .i32 0, .int .i32 0, .int .i32 0, .int .i32 0] ty)) (m + 1) 0 g (fun _ => 0) (fun _ => 0) (fun _ => 0) := by
  have s1 : (w.alloc o1).heap.size = w.heap.size + 1 := by simp
  have s2 : ((w.alloc o1).alloc o2).heap.size = w.heap.size + 2 := by simp
  have b1 : (((w.alloc o1).alloc o2).alloc (.cells #[.int .i32 0, .int .i32 0, .int .i32 0, .int .i32 0, .int .i32 0] ty)).heap[w.heap.size]? = some (.cells (madeCells z1 (m + 1)) 21) := by
    rw [Below.heap_alloc _ _ _ (by omega), Below.heap_alloc _ _ _ (by omega), ← e1]; exact block_new _ _
  have b2 : (((w.alloc o1).alloc o2).alloc (.cells #[.int .i32 0, .int .i32 0, .int .i32 0, .int .i32 0, .int .i32 0] ty)).heap[w.heap.size + 1]? = some (.cells (madeCells z2 ((m + 1) * 6)) 84) := by
    rw [Below.heap_alloc _ _ _ (by omega), ← e2]
    have := block_new (w.alloc o1) o2
    rwa [s1] at this
  have b3 : (((w.alloc o1).alloc o2).alloc (.cells #[.int .i32 0, .int .i32 0, .int .i32 0, .int .i32 0, .int .i32 0] ty)).heap[w.heap.size + 2]? = some (.cells #[.int .i32 0, .int .i32 0, .int .i32 0, .int .i32 0, .int .i32 0] ty) := by
    have := block_new ((w.alloc o1).alloc o2) (.cells #[.int .i32 0, .int .i32 0, .int .i32 0, .int .i32 0, .int .i32 0] ty)
    rwa [s2] at this
  have t : Tch (fun _ => False) w (((w.alloc o1).alloc o2).alloc (.cells #[.int .i32 0, .int .i32 0, .int .i32 0, .int .i32 0, .int .i32 0] ty)) := (((Tch.refl _ w).alloc _).alloc _).alloc _
  refine ⟨by simp, ⟨t.os, t.tape, t.output, t.size, fun x hx => t.block x hx (fun e => e)⟩, there_made b1, free_made b1, ?_, there_made b2, free_made b2, ?_, ?_, ?_, ?_, ?_, ?_, fun q hq => ?_, free_made b3⟩
  iterate 7 (intro i hi; omega)
  rw [cell_block b3]
  match q, hq with
  | 0, _ => rfl
  | 1, _ => rfl
  | 2, _ => rfl
  | 3, _ => rfl
  | 4, _ => rfl

/-- What the third loop keeps: the transactions. -/
structure FT (wf wr : World) (n k : Nat) (g pos : Nat → Nat) : Prop where
  size : wr.heap.size = wf.heap.size + 1 + k
  bel : Below wf.heap.size wf wr
  tT : There wr wf.heap.size (n * 11)
  fT : Free wr wf.heap.size
  cT : ∀ i, i < k → wr.cell? ⟨wf.heap.size, i * 11, none⟩ = some (.slice (some ⟨wf.heap.size + 1 + i, 0, none⟩) 1 1)
  u0 : ∀ i, i < k → wr.cell? ⟨wf.heap.size + 1 + i, 0, none⟩ = some (.int .i32 0)
  u2 : ∀ i, i < k → wr.cell? ⟨wf.heap.size + 1 + i, 2, none⟩ = some (.int .u8 ((g i : Nat) + 1))
  u6 : ∀ i, i < k → wr.cell? ⟨wf.heap.size + 1 + i, 6, none⟩ = some (.int .i32 (pos i))
  fU : ∀ i, i < k → Free wr (wf.heap.size + 1 + i)

def rndT (wr : World) (N k gk pk : Nat) : World :=
  ((wr.setCell ⟨N, k * 11, none⟩ (.slice (some ⟨N + 1 + k, 0, none⟩) 1 1)).setCell ⟨N, k * 11 + 2, none⟩ (.int .i32 (-1))).alloc (.cells #[.int .i32 0, .int .u8 0, .int .u8 ((gk : Nat) + 1), .bool false, .bool false, .int .i32 0, .int .i32 pk, .int .i32 0, .int .i32 0] 86)

theorem FT.start (wf : World) (m : Nat) (g pos : Nat → Nat) (o : Obj) (z : Array Value) (e : o = .cells (madeCells z ((m + 1) * 11)) 90) : FT wf (wf.alloc o) (m + 1) 0 g pos := by
  have t : Tch (fun _ => False) wf (wf.alloc o) := (Tch.refl _ wf).alloc _
  have b1 : (wf.alloc o).heap[wf.heap.size]? = some (.cells (madeCells z ((m + 1) * 11)) 90) := by rw [← e]; exact block_new _ _
  refine ⟨by simp, ⟨t.os, t.tape, t.output, t.size, fun x hx => t.block x hx (fun e => e)⟩, there_made b1, free_made b1, ?_, ?_, ?_, ?_, ?_⟩
  all_goals (intro i hi; omega)

theorem FT.step {wf wr : World} {n k : Nat} {g pos : Nat → Nat} (h : FT wf wr n k g pos) (hk : k < n) : FT wf (rndT wr wf.heap.size k (g k) (pos k)) n (k + 1) g pos := by
  have hz := h.size
  generalize hA : (wr.setCell ⟨wf.heap.size, k * 11, none⟩ (.slice (some ⟨wf.heap.size + 1 + k, 0, none⟩) 1 1)).setCell ⟨wf.heap.size, k * 11 + 2, none⟩ (.int .i32 (-1)) = A
  have t1 : Tch (fun x => x = wf.heap.size) wr A := by rw [← hA]; exact ((Tch.refl (fun x => x = wf.heap.size) wr).setCell (p := ⟨wf.heap.size, k * 11, none⟩) rfl _).setCell (p := ⟨wf.heap.size, k * 11 + 2, none⟩) rfl _
  have hzA : A.heap.size = wf.heap.size + 1 + k := by rw [← hA]; simp [World.setCell, hz]
  have tA : There A wf.heap.size (n * 11) := by rw [← hA]; exact (h.tT.set _ _).set _ _
  have fA : Free A wf.heap.size := by rw [← hA]; exact (h.fT.set _ _).set _ _
  obtain ⟨x, hx⟩ := h.tT (k * 11) (by omega)
  have ck : A.cell? ⟨wf.heap.size, k * 11, none⟩ = some (.slice (some ⟨wf.heap.size + 1 + k, 0, none⟩) 1 1) := by
    rw [← hA, World.cell?_setCell_other _ _ _ _ (fun e => by injection e; omega)]
    exact World.cell?_setCell_same _ _ _ hx
  have co : ∀ i, i < k → A.cell? ⟨wf.heap.size, i * 11, none⟩ = wr.cell? ⟨wf.heap.size, i * 11, none⟩ := fun i hi => by
    rw [← hA, World.cell?_setCell_other _ _ _ _ (fun e => by injection e; omega), World.cell?_setCell_other _ _ _ _ (fun e => by injection e; omega)]
  have hR : rndT wr wf.heap.size k (g k) (pos k) = A.alloc (.cells #[.int .i32 0, .int .u8 0, .int .u8 ((g k : Nat) + 1), .bool false, .bool false, .int .i32 0, .int .i32 (pos k), .int .i32 0, .int .i32 0] 86) := by rw [← hA]; rfl
  have t2 : Tch (fun _ => False) A (rndT wr wf.heap.size k (g k) (pos k)) := by rw [hR]; exact (Tch.refl _ A).alloc _
  have bn : (rndT wr wf.heap.size k (g k) (pos k)).heap[wf.heap.size + 1 + k]? = some (.cells #[.int .i32 0, .int .u8 0, .int .u8 ((g k : Nat) + 1), .bool false, .bool false, .int .i32 0, .int .i32 (pos k), .int .i32 0, .int .i32 0] 86) := by
    rw [hR, ← hzA]; exact block_new _ _
  have sz : (rndT wr wf.heap.size k (g k) (pos k)).heap.size = wf.heap.size + 1 + (k + 1) := by rw [hR]; simp [hzA]; omega
  generalize rndT wr wf.heap.size k (g k) (pos k) = R at *
  have hrec : ∀ {p : Nat → Prop}, (∀ i, i < k → p i) → p k → ∀ i, i < k + 1 → p i := fun {p} h1 h2 i hi => by
    rcases Nat.lt_or_ge i k with h' | h'
    · exact h1 i h'
    · obtain rfl : i = k := by omega
      exact h2
  have hU : ∀ {i o v}, i < k → wr.cell? ⟨wf.heap.size + 1 + i, o, none⟩ = some v → R.cell? ⟨wf.heap.size + 1 + i, o, none⟩ = some v := fun {i o v} hi hv => t2.cell (t1.cell hv (by show ¬ wf.heap.size + 1 + i = wf.heap.size; omega)) (fun e => e)
  refine ⟨sz, ?_, ?_, Free.tch fA t2 (by omega) (fun e => e), ?_, ?_, ?_, ?_, ?_⟩
  · exact ⟨t2.os.trans (t1.os.trans h.bel.os), t2.tape.trans (t1.tape.trans h.bel.tape), t2.output.trans (t1.output.trans h.bel.output), by rw [sz]; omega, fun x hx => (t2.block x (by omega) (fun e => e)).trans ((t1.block x (by omega) (by omega)).trans (h.bel.block x hx))⟩
  · intro j hj; obtain ⟨y, hy⟩ := tA j hj; exact ⟨y, t2.cell hy (fun e => e)⟩
  · exact hrec (fun i hi => t2.cell ((co i hi).trans (h.cT i hi)) (fun e => e)) (t2.cell ck (fun e => e))
  · exact hrec (fun i hi => hU hi (h.u0 i hi)) (cell_block bn 0)
  · exact hrec (fun i hi => hU hi (h.u2 i hi)) (cell_block bn 2)
  · exact hrec (fun i hi => hU hi (h.u6 i hi)) (cell_block bn 6)
  · exact hrec (fun i hi => Free.tch (Free.tch (h.fU i hi) t1 (by omega) (by omega)) t2 (by omega) (fun e => e)) (free_made bn)

end Gr
end Go.Proofs.Ybulkaylc
