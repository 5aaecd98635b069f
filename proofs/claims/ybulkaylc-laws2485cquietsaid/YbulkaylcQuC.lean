import Derived.Test.YbulkaylcQuB
namespace Go.Proofs.Ybulkaylc
open Go.RowKit
set_option linter.unusedVariables false
namespace Qu
open Sw Gr

/-- What the composite literal leaves, in whatever order its rows are made. -/
structure Laid (W0 W : World) (N Q QQ m : Nat) : Prop where
  tch : Tch (fun _ => False) W0 W
  lo : Q + 1 ≤ QQ
  hi : QQ ≤ Q + 3
  qq : W.cell? ⟨QQ, 0, none⟩ = some (.slice (some ⟨N + 1, 0, none⟩) (m + 1) (m + 1))
  qq1 : W.cell? ⟨QQ, 1, none⟩ = some (.slice (some ⟨Q, 0, none⟩) 1 1)
  fq : W.frozen? ⟨QQ, 0, none⟩ = false
  wi : W.cell? ⟨Q + 4, 4, none⟩ = some (.slice (some ⟨QQ, 0, none⟩) 2 2)
  l10 : W.cell? ⟨Q + 5, 10, none⟩ = some (.slice (some ⟨N, 0, none⟩) (m + 1) (m + 1))
  l17 : W.cell? ⟨Q + 5, 17, none⟩ = some (.pointer (some ⟨Q + 4, 0, none⟩))

theorem fiveC (W0 : World) (n : Nat) (hn : W0.heap.size = n) (o1 o2 o3 o4 o5 : Obj) :
    Tch (fun _ => False) W0 (((((W0.alloc o1).alloc o2).alloc o3).alloc o4).alloc o5).drew ∧ (((((W0.alloc o1).alloc o2).alloc o3).alloc o4).alloc o5).drew.heap[n]? = some o1 ∧ (((((W0.alloc o1).alloc o2).alloc o3).alloc o4).alloc o5).drew.heap[n + 1]? = some o2 ∧
    (((((W0.alloc o1).alloc o2).alloc o3).alloc o4).alloc o5).drew.heap[n + 2]? = some o3 ∧ (((((W0.alloc o1).alloc o2).alloc o3).alloc o4).alloc o5).drew.heap[n + 3]? = some o4 ∧ (((((W0.alloc o1).alloc o2).alloc o3).alloc o4).alloc o5).drew.heap[n + 4]? = some o5 := by
  subst hn
  have s1 : (W0.alloc o1).heap.size = W0.heap.size + 1 := by simp
  have s2 : ((W0.alloc o1).alloc o2).heap.size = W0.heap.size + 2 := by simp
  have s3 : (((W0.alloc o1).alloc o2).alloc o3).heap.size = W0.heap.size + 3 := by simp
  have s4 : ((((W0.alloc o1).alloc o2).alloc o3).alloc o4).heap.size = W0.heap.size + 4 := by simp
  refine ⟨((((((Tch.refl _ W0).alloc _).alloc _).alloc _).alloc _).alloc _).drewN 1, ?_, ?_, ?_, ?_, ?_⟩
  all_goals change (((((W0.alloc o1).alloc o2).alloc o3).alloc o4).alloc o5).heap[_]? = _
  · rw [Below.heap_alloc _ _ _ (by omega), Below.heap_alloc _ _ _ (by omega), Below.heap_alloc _ _ _ (by omega), Below.heap_alloc _ _ _ (by omega)]
    exact block_new _ _
  · rw [Below.heap_alloc _ _ _ (by omega), Below.heap_alloc _ _ _ (by omega), Below.heap_alloc _ _ _ (by omega)]
    have := block_new (W0.alloc o1) o2
    rwa [s1] at this
  · rw [Below.heap_alloc _ _ _ (by omega), Below.heap_alloc _ _ _ (by omega)]
    have := block_new ((W0.alloc o1).alloc o2) o3
    rwa [s2] at this
  · rw [Below.heap_alloc _ _ _ (by omega)]
    have := block_new (((W0.alloc o1).alloc o2).alloc o3) o4
    rwa [s3] at this
  · have := block_new ((((W0.alloc o1).alloc o2).alloc o3).alloc o4) o5
    rwa [s4] at this

theorem laid1 {W0 : World} {N Q m : Nat} (hz : W0.heap.size = Q + 1) (t : TypeId) (o2 o3 : Obj) (wi l : Array Value) (t4 t5 : TypeId) (h4 : wi[4]? = some (.slice (some ⟨Q + 1, 0, none⟩) 2 2)) (h10 : l[10]? = some (.slice (some ⟨N, 0, none⟩) (m + 1) (m + 1))) (h17 : l[17]? = some (.pointer (some ⟨Q + 4, 0, none⟩))) :
    Laid W0 (((((W0.alloc (.cells #[.slice (some ⟨N + 1, 0, none⟩) (m + 1) (m + 1), .slice (some ⟨Q, 0, none⟩) 1 1] t)).alloc o2).alloc o3).alloc (.cells wi t4)).alloc (.cells l t5)).drew N Q (Q + 1) m := by
  obtain ⟨tc, b1, b2, b3, b4, b5⟩ := fiveC W0 (Q + 1) hz (.cells #[.slice (some ⟨N + 1, 0, none⟩) (m + 1) (m + 1), .slice (some ⟨Q, 0, none⟩) 1 1] t) o2 o3 (.cells wi t4) (.cells l t5)
  exact ⟨tc, by omega, by omega, cell_block b1 0, cell_block b1 1, free_made b1 0, (cell_block b4 4).trans h4, (cell_block b5 10).trans h10, (cell_block b5 17).trans h17⟩
theorem laid2 {W0 : World} {N Q m : Nat} (hz : W0.heap.size = Q + 1) (t : TypeId) (o2 o3 : Obj) (wi l : Array Value) (t4 t5 : TypeId) (h4 : wi[4]? = some (.slice (some ⟨Q + 2, 0, none⟩) 2 2)) (h10 : l[10]? = some (.slice (some ⟨N, 0, none⟩) (m + 1) (m + 1))) (h17 : l[17]? = some (.pointer (some ⟨Q + 4, 0, none⟩))) :
    Laid W0 (((((W0.alloc o2).alloc (.cells #[.slice (some ⟨N + 1, 0, none⟩) (m + 1) (m + 1), .slice (some ⟨Q, 0, none⟩) 1 1] t)).alloc o3).alloc (.cells wi t4)).alloc (.cells l t5)).drew N Q (Q + 2) m := by
  obtain ⟨tc, b1, b2, b3, b4, b5⟩ := fiveC W0 (Q + 1) hz o2 (.cells #[.slice (some ⟨N + 1, 0, none⟩) (m + 1) (m + 1), .slice (some ⟨Q, 0, none⟩) 1 1] t) o3 (.cells wi t4) (.cells l t5)
  exact ⟨tc, by omega, by omega, cell_block b2 0, cell_block b2 1, free_made b2 0, (cell_block b4 4).trans h4, (cell_block b5 10).trans h10, (cell_block b5 17).trans h17⟩
theorem laid3 {W0 : World} {N Q m : Nat} (hz : W0.heap.size = Q + 1) (t : TypeId) (o2 o3 : Obj) (wi l : Array Value) (t4 t5 : TypeId) (h4 : wi[4]? = some (.slice (some ⟨Q + 3, 0, none⟩) 2 2)) (h10 : l[10]? = some (.slice (some ⟨N, 0, none⟩) (m + 1) (m + 1))) (h17 : l[17]? = some (.pointer (some ⟨Q + 4, 0, none⟩))) :
    Laid W0 (((((W0.alloc o2).alloc o3).alloc (.cells #[.slice (some ⟨N + 1, 0, none⟩) (m + 1) (m + 1), .slice (some ⟨Q, 0, none⟩) 1 1] t)).alloc (.cells wi t4)).alloc (.cells l t5)).drew N Q (Q + 3) m := by
  obtain ⟨tc, b1, b2, b3, b4, b5⟩ := fiveC W0 (Q + 1) hz o2 o3 (.cells #[.slice (some ⟨N + 1, 0, none⟩) (m + 1) (m + 1), .slice (some ⟨Q, 0, none⟩) 1 1] t) (.cells wi t4) (.cells l t5)
  exact ⟨tc, by omega, by omega, cell_block b3 0, cell_block b3 1, free_made b3 0, (cell_block b4 4).trans h4, (cell_block b5 10).trans h10, (cell_block b5 17).trans h17⟩

/-- The blocks. -/
def blkQ (N Q QQ : Nat) : BlkQ := { L := Q + 5, WI := Q + 4, QQ := QQ, QB := N + 1, T := N, U := fun i => N + 2 + i }

structure PreQ (w W : World) (Q QQ m : Nat) : Prop where
  ap : ApQ (blkQ w.heap.size Q QQ) (m + 1)
  env : EnvQ W (blkQ w.heap.size Q QQ) (m + 1)
  rows : RowsQ W (blkQ w.heap.size Q QQ) (m + 1) (fun i => i) (fun i => i)
  o0 : W.cell? ⟨Q, 0, none⟩ = some (.int .i32 0)
  o1 : W.cell? ⟨Q, 1, none⟩ = some (.int .i32 0)
  bel : Below w.heap.size w W
  size : Q + 1 ≤ W.heap.size

theorem preQ {w wr W0 W : World} {Q QQ m : Nat} (fl : FillQ w wr m (m + 1)) (hQ : w.heap.size + 2 + (m + 1) = Q) (tW : Tch (fun _ => False) wr W0) (bQ : W0.heap[Q]? = some (.cells #[.int .i32 0, .int .i32 0] 98)) (hz0 : W0.heap.size = Q + 1) (ld : Laid W0 W w.heap.size Q QQ m) : PreQ w W Q QQ m := by
  have t : Tch (fun _ => False) wr W := tW.trans ld.tch
  have hsz := fl.size
  have h1 := ld.lo
  have h2 := ld.hi
  have fr : ∀ b j, b < wr.heap.size → W.frozen? ⟨b, j, none⟩ = wr.frozen? ⟨b, j, none⟩ := fun b j hb => World.frozen?_of_block (t.block b hb (fun e => e))
  refine ⟨?_, ?_, ?_, ld.tch.cell (cell_block bQ 0) (fun e => e), ld.tch.cell (cell_block bQ 1) (fun e => e), ?_, by rw [← hz0]; exact ld.tch.size⟩
  · constructor
    case inj => intro i j _ _ e; have : w.heap.size + 2 + i = w.heap.size + 2 + j := e; omega
    all_goals simp only [blkQ]
    all_goals first | omega | (intro i hi; omega)
  · exact ⟨ld.l10, ld.l17, ld.wi, fun i hi => t.cell (fl.cT i hi) (fun e => e), fun i hi => t.cell (fl.u0 i hi) (fun e => e), fun i hi => t.cell (fl.u3 i hi) (fun e => e), fun i hi => (fr _ _ (by show w.heap.size + 2 + i < _; omega)).trans (fl.fU i hi 5), fun j => (fr _ _ (by show w.heap.size + 1 < _; omega)).trans (fl.fB j), ld.fq⟩
  · exact ⟨fun i hi => t.cell (fl.r0 i hi) (fun e => e), fun i hi => t.cell (fl.r1 i hi) (fun e => e), fun i hi => t.cell (fl.u5 i hi) (fun e => e)⟩
  · exact ⟨t.os.trans fl.bel.os, t.tape.trans fl.bel.tape, t.output.trans fl.bel.output, Nat.le_trans fl.bel.size t.size, fun x hx => (t.block x (by omega) (fun e => e)).trans (fl.bel.block x hx)⟩

end Qu
end Go.Proofs.Ybulkaylc
