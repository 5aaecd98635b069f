import Derived.Test.YbulkaylcCoB
import Derived.Test.YbulkaylcGrC
namespace Go.Proofs.Ybulkaylc
open Go.RowKit
set_option linter.unusedVariables false
namespace Co
open Sw Gr

/-- The place of the use that is told k-th, and back. -/
def P (m o k : Nat) : Nat := if k + o < m + 1 then k + o else k + o - (m + 1)
def S (m o j : Nat) : Nat := if o ≤ j then j - o else j + (m + 1) - o

theorem P_lt {m o k : Nat} (ho : o < m + 1) (hk : k < m + 1) : P m o k < m + 1 := by unfold P; split <;> omega
theorem P_inj {m o i j : Nat} (ho : o < m + 1) (hi : i < m + 1) (hj : j < m + 1) (h : P m o i = P m o j) : i = j := by unfold P at h; split at h <;> split at h <;> omega
theorem S_P {m o k : Nat} (ho : o < m + 1) (hk : k < m + 1) : S m o (P m o k) = k := by unfold S P; split <;> split <;> omega
theorem P_S {m o j : Nat} (ho : o < m + 1) (hj : j < m + 1) : P m o (S m o j) = j := by unfold S P; split <;> split <;> omega
theorem S_lt {m o j : Nat} (ho : o < m + 1) (hj : j < m + 1) : S m o j < m + 1 := by unfold S; split <;> omega
theorem P_mod {m o k : Nat} (ho : o < m + 1) (hk : k < m + 1) : ((k : Int) + (o : Int)) % ((m : Int) + 1) = ((P m o k : Nat) : Int) := by
  unfold P
  split
  · rw [Int.emod_eq_of_lt (by omega) (by omega)]; omega
  · have : ((k : Int) + (o : Int)) = ((k + o - (m + 1) : Nat) : Int) + ((m : Int) + 1) := by omega
    rw [this, Int.add_emod_right, Int.emod_eq_of_lt (by omega) (by omega)]

theorem i86 : (Yba.prog.info? 86).map (fun i => (i.size, i.zero.isSome, decide (i.bytes ≤ 256))) = some (9, true, true) := by kernel_rfl
theorem make87 (m : Nat) (hm : m + 1 ≤ 1024) (w : World) :
    ∃ o, (Instr.makeSlice 87 (.int .i64 ((m : Int) + 1)) (.int .i64 ((m : Int) + 1))).run Yba.prog w = .ok (.slice (some ⟨w.heap.size, 0, none⟩) (m + 1) (m + 1)) (w.alloc o) ∧ ∃ z, o = .cells (madeCells z ((m + 1) * 9)) 86 := by
  obtain ⟨i, hi, hzz⟩ := Option.map_eq_some_iff.1 i86
  simp only [Prod.mk.injEq] at hzz
  obtain ⟨hs, hz, hb⟩ := hzz
  obtain ⟨zz, hz⟩ := Option.isSome_iff_exists.1 hz
  have hb' : i.bytes ≤ 256 := of_decide_eq_true hb
  have hbm : (i.bytes : Int) * ((m : Int) + 1) ≤ 256 * 1024 := Int.mul_le_mul (by omega) (by omega) (by omega) (by omega)
  have hr := run_make (P := Yba.prog) w 87 86 i _ Yba.underlying87 hi hz .i64 .i64 ((m : Int) + 1) ((m : Int) + 1) (by omega) (by omega) (by omega) (by omega)
  rw [hs] at hr
  have e : ((m : Int) + 1).toNat = m + 1 := by omega
  rw [e] at hr
  exact ⟨_, hr, _, rfl⟩

structure FillC (w wr : World) (m o k : Nat) : Prop where
  size : wr.heap.size = w.heap.size + 2
  bel : Below w.heap.size w wr
  tU : There wr w.heap.size ((m + 1) * 9)
  fU : Free wr w.heap.size
  tT : There wr (w.heap.size + 1) (m + 1)
  fT : Free wr (w.heap.size + 1)
  t : ∀ i, i < k → wr.cell? ⟨w.heap.size + 1, i, none⟩ = some (.int .i32 (P m o i))
  c3 : ∀ i, i < k → wr.cell? ⟨w.heap.size, P m o i * 9 + 3, none⟩ = some (.bool true)
  s : ∀ i, i < k → wr.cell? ⟨w.heap.size, P m o i * 9 + 5, none⟩ = some (.int .i32 i)

theorem FillC.start (w : World) (m o : Nat) (o1 o2 : Obj) (z1 z2 : Array Value) (e1 : o1 = .cells (madeCells z1 ((m + 1) * 9)) 86) (e2 : o2 = .cells (madeCells z2 (m + 1)) 21) : FillC w ((w.alloc o1).alloc o2) m o 0 := by
  have t : Tch (fun _ => False) w ((w.alloc o1).alloc o2) := ((Tch.refl _ w).alloc _).alloc _
  have b1 : ((w.alloc o1).alloc o2).heap[w.heap.size]? = some (.cells (madeCells z1 ((m + 1) * 9)) 86) := by rw [Below.heap_alloc _ _ _ (by simp), ← e1]; exact block_new _ _
  have b2 : ((w.alloc o1).alloc o2).heap[w.heap.size + 1]? = some (.cells (madeCells z2 (m + 1)) 21) := by
    have := block_new (w.alloc o1) o2
    rw [show (w.alloc o1).heap.size = w.heap.size + 1 by simp] at this
    rw [this, e2]
  refine ⟨by simp, ⟨t.os, t.tape, t.output, t.size, fun x hx => t.block x hx (fun e => e)⟩, there_made b1, free_made b1, there_made b2, free_made b2, ?_, ?_, ?_⟩
  all_goals (intro i hi; omega)

def nine (p k : Nat) : List Value := [.int .i32 p, .int .u8 0, .int .u8 0, .bool true, .bool false, .int .i32 k, .int .i32 0, .int .i32 0, .int .i32 0]
def rndC (wr : World) (N p k : Nat) : World := (wr.setCell ⟨N + 1, k, none⟩ (.int .i32 p)).setCells N (p * 9) (nine p k)

theorem there_setCells {g K : Nat} (b : Nat) : ∀ (vs : List Value) (o : Nat) (w : World), There w g K → There (w.setCells b o vs) g K
  | [], _, _, h => h
  | v :: r, o, w, h => there_setCells b r (o + 1) _ (h.set _ _)
theorem free_setCells {g : Nat} (b : Nat) : ∀ (vs : List Value) (o : Nat) (w : World), Free w g → Free (w.setCells b o vs) g
  | [], _, _, h => h
  | v :: r, o, w, h => free_setCells b r (o + 1) _ (h.set _ _)

theorem FillC.step {w wr : World} {m o k : Nat} (h : FillC w wr m o k) (ho : o < m + 1) (hk : k < m + 1) : FillC w (rndC wr w.heap.size (P m o k) k) m o (k + 1) := by
  have hz := h.size
  have hp := P_lt ho hk
  generalize hA : wr.setCell ⟨w.heap.size + 1, k, none⟩ (.int .i32 (P m o k)) = A
  have t1 : Tch (fun x => x = w.heap.size + 1) wr A := by rw [← hA]; exact (Tch.refl (fun x => x = w.heap.size + 1) wr).setCell (p := ⟨w.heap.size + 1, k, none⟩) rfl _
  have hzA : A.heap.size = w.heap.size + 2 := by rw [← hA]; simp [World.setCell, hz]
  have tUA : There A w.heap.size ((m + 1) * 9) := by rw [← hA]; exact h.tU.set _ _
  have fUA : Free A w.heap.size := by rw [← hA]; exact h.fU.set _ _
  have tTA : There A (w.heap.size + 1) (m + 1) := by rw [← hA]; exact h.tT.set _ _
  have fTA : Free A (w.heap.size + 1) := by rw [← hA]; exact h.fT.set _ _
  obtain ⟨x, hx⟩ := h.tT k hk
  have ck : A.cell? ⟨w.heap.size + 1, k, none⟩ = some (.int .i32 (P m o k)) := by rw [← hA]; exact World.cell?_setCell_same _ _ _ hx
  have co : ∀ i, i < k → A.cell? ⟨w.heap.size + 1, i, none⟩ = wr.cell? ⟨w.heap.size + 1, i, none⟩ := fun i hi => by rw [← hA]; exact World.cell?_setCell_other _ _ _ _ (fun e => by injection e; omega)
  have hR : rndC wr w.heap.size (P m o k) k = A.setCells w.heap.size (P m o k * 9) (nine (P m o k) k) := by unfold rndC; rw [hA]
  have t2 : Tch (fun x => x = w.heap.size) A (rndC wr w.heap.size (P m o k) k) := by rw [hR]; exact tch_setCells (S := fun x => x = w.heap.size) rfl _ _ _
  have sz : (rndC wr w.heap.size (P m o k) k).heap.size = w.heap.size + 2 := by rw [hR, size_setCells, hzA]
  have hin : ∀ j, j < 9 → (rndC wr w.heap.size (P m o k) k).cell? ⟨w.heap.size, P m o k * 9 + j, none⟩ = (nine (P m o k) k)[j]? := fun j hj => by
    rw [hR, List.getElem?_eq_getElem (show j < (nine (P m o k) k).length from hj)]
    exact World.cell?_setCells_in w.heap.size (nine (P m o k) k) (P m o k * 9) A (fun i hi => by have hi' : i < 9 := hi; obtain ⟨y, hy⟩ := tUA (P m o k * 9 + i) (by omega); rw [hy]; rfl) j hj
  have hout : ∀ p d, p ≠ P m o k → d < 9 → (rndC wr w.heap.size (P m o k) k).cell? ⟨w.heap.size, p * 9 + d, none⟩ = A.cell? ⟨w.heap.size, p * 9 + d, none⟩ := fun p d hp' hd => by
    rw [hR]
    exact World.cell?_setCells_out w.heap.size (nine (P m o k) k) (P m o k * 9) A _ (fun _ _ => by show p * 9 + d < P m o k * 9 ∨ P m o k * 9 + 9 ≤ p * 9 + d; omega)
  have tU2 : There (rndC wr w.heap.size (P m o k) k) w.heap.size ((m + 1) * 9) := by rw [hR]; exact there_setCells _ _ _ _ tUA
  have fU2 : Free (rndC wr w.heap.size (P m o k) k) w.heap.size := by rw [hR]; exact free_setCells _ _ _ _ fUA
  generalize rndC wr w.heap.size (P m o k) k = R at *
  have hrec : ∀ {p : Nat → Prop}, (∀ i, i < k → p i) → p k → ∀ i, i < k + 1 → p i := fun {p} h1 h2 i hi => by
    rcases Nat.lt_or_ge i k with h' | h'
    · exact h1 i h'
    · obtain rfl : i = k := by omega
      exact h2
  have hN : ¬ w.heap.size + 1 = w.heap.size := by omega
  have hN' : ¬ w.heap.size = w.heap.size + 1 := by omega
  have hpi : ∀ i, i < k → P m o i ≠ P m o k := fun i hi e => by have := P_inj ho (by omega) hk e; omega
  refine ⟨sz, ?_, tU2, fU2, ?_, Free.tch fTA t2 (by omega) hN, ?_, ?_, ?_⟩
  · exact ⟨t2.os.trans (t1.os.trans h.bel.os), t2.tape.trans (t1.tape.trans h.bel.tape), t2.output.trans (t1.output.trans h.bel.output), by rw [sz]; omega, fun x hx => (t2.block x (by omega) (by omega)).trans ((t1.block x (by omega) (by omega)).trans (h.bel.block x hx))⟩
  · intro j hj; obtain ⟨y, hy⟩ := tTA j hj; exact ⟨y, t2.cell hy hN⟩
  · exact hrec (fun i hi => t2.cell ((co i hi).trans (h.t i hi)) hN) (t2.cell ck hN)
  · exact hrec (fun i hi => (hout _ 3 (hpi i hi) (by omega)).trans (t1.cell (h.c3 i hi) hN')) (hin 3 (by omega))
  · exact hrec (fun i hi => (hout _ 5 (hpi i hi) (by omega)).trans (t1.cell (h.s i hi) hN')) (hin 5 (by omega))

/-- The blocks. -/
def blkC (N : Nat) : BlkC := { L := N + 6, WI := N + 5, CC := N + 3, LI := N + 4, TB := N + 1, T := N + 2, UB := N }

theorem fiveD (W0 : World) (n : Nat) (hn : W0.heap.size = n) (o1 o2 o3 o4 o5 : Obj) :
    Tch (fun _ => False) W0 (((((W0.alloc o1).alloc o2).alloc o3).alloc o4).alloc o5) ∧ (((((W0.alloc o1).alloc o2).alloc o3).alloc o4).alloc o5).heap[n]? = some o1 ∧ (((((W0.alloc o1).alloc o2).alloc o3).alloc o4).alloc o5).heap[n + 1]? = some o2 ∧
    (((((W0.alloc o1).alloc o2).alloc o3).alloc o4).alloc o5).heap[n + 2]? = some o3 ∧ (((((W0.alloc o1).alloc o2).alloc o3).alloc o4).alloc o5).heap[n + 3]? = some o4 ∧ (((((W0.alloc o1).alloc o2).alloc o3).alloc o4).alloc o5).heap[n + 4]? = some o5 := by
  obtain ⟨a1, a2, a3, a4, a5, a6⟩ := five W0 n hn o1 o2 o3 o4 o5
  subst hn
  have s1 : (W0.alloc o1).heap.size = W0.heap.size + 1 := by simp
  refine ⟨((((((Tch.refl _ W0).alloc _).alloc _).alloc _).alloc _).alloc _), a3, ?_, a4, a5, a6⟩
  rw [Below.heap_alloc _ _ _ (by simp), Below.heap_alloc _ _ _ (by simp), Below.heap_alloc _ _ _ (by simp)]
  have := block_new (W0.alloc o1) o2
  rwa [s1] at this

/-- The world in which 'untell' is called. -/
def atC (W0 : World) (N m : Nat) : World :=
  ((((W0.alloc (.cells #[.slice (some ⟨N, 0, none⟩) (m + 1) (m + 1), .slice none 0 0, .int .i32 0, .int .i32 0, .int .u8 0, .bool false, .bool false, .bool false, .bool false, .int .i32 0, .int .i32 0] 90)).alloc (.cells #[.slice (some ⟨N + 1, 0, none⟩) (m + 1) (m + 1)] 37)).alloc (.cells #[.int .i32 0] 21)).alloc
    (.cells #[.slice none 0 0, .slice none 0 0, .slice none 0 0, .slice none 0 0, .slice none 0 0, .slice (some ⟨N + 3, 0, none⟩) 1 1, .slice (some ⟨N + 4, 0, none⟩) 1 1, .slice none 0 0, .slice none 0 0, .pointer none, .int .i32 0, .slice none 0 0] 59)).alloc
    (.cells #[.pointer none, .int .u8 0, .bool false, .bool false, .bool false, .bool false, .bool false, .bool false, .nilIface, .slice none 0 0, .slice (some ⟨N + 2, 0, none⟩) 1 1, .nilFunc, .slice none 0 0, .pointer none, .slice none 0 0, .slice none 0 0, .bool false, .pointer (some ⟨N + 5, 0, none⟩), .slice none 0 0, .slice none 0 0, .slice none 0 0, .slice none 0 0, .int .i64 0, .int .i64 0, .slice none 0 0, .slice none 0 0, .slice none 0 0] 40)

structure PreC (w W : World) (m o : Nat) : Prop where
  size : w.heap.size + 2 ≤ W.heap.size
  bel : Below w.heap.size w W
  env : EnvC W (blkC w.heap.size) (m + 1)
  rows : RowsC W (blkC w.heap.size) (m + 1) (P m o) (S m o)
  c3 : ∀ i, i < m + 1 → W.cell? ⟨w.heap.size, P m o i * 9 + 3, none⟩ = some (.bool true)
  cC : W.cell? ⟨w.heap.size + 3, 0, none⟩ = some (.slice (some ⟨w.heap.size + 1, 0, none⟩) (m + 1) (m + 1))

theorem preC {w wr : World} {m o : Nat} (h : FillC w wr m o (m + 1)) (ho : o < m + 1) : PreC w (atC wr w.heap.size m) m o := by
  have hz := h.size
  obtain ⟨t, bT, bC, bI, bW, bL⟩ := fiveD wr (w.heap.size + 2) hz (.cells #[.slice (some ⟨w.heap.size, 0, none⟩) (m + 1) (m + 1), .slice none 0 0, .int .i32 0, .int .i32 0, .int .u8 0, .bool false, .bool false, .bool false, .bool false, .int .i32 0, .int .i32 0] 90) (.cells #[.slice (some ⟨w.heap.size + 1, 0, none⟩) (m + 1) (m + 1)] 37) (.cells #[.int .i32 0] 21)
    (.cells #[.slice none 0 0, .slice none 0 0, .slice none 0 0, .slice none 0 0, .slice none 0 0, .slice (some ⟨w.heap.size + 3, 0, none⟩) 1 1, .slice (some ⟨w.heap.size + 4, 0, none⟩) 1 1, .slice none 0 0, .slice none 0 0, .pointer none, .int .i32 0, .slice none 0 0] 59)
    (.cells #[.pointer none, .int .u8 0, .bool false, .bool false, .bool false, .bool false, .bool false, .bool false, .nilIface, .slice none 0 0, .slice (some ⟨w.heap.size + 2, 0, none⟩) 1 1, .nilFunc, .slice none 0 0, .pointer none, .slice none 0 0, .slice none 0 0, .bool false, .pointer (some ⟨w.heap.size + 5, 0, none⟩), .slice none 0 0, .slice none 0 0, .slice none 0 0, .slice none 0 0, .int .i64 0, .int .i64 0, .slice none 0 0, .slice none 0 0, .slice none 0 0] 40)
  change Tch (fun _ => False) wr (atC wr w.heap.size m) at t
  change (atC wr w.heap.size m).heap[w.heap.size + 2]? = _ at bT
  change (atC wr w.heap.size m).heap[w.heap.size + 3]? = _ at bC
  change (atC wr w.heap.size m).heap[w.heap.size + 4]? = _ at bI
  change (atC wr w.heap.size m).heap[w.heap.size + 5]? = _ at bW
  change (atC wr w.heap.size m).heap[w.heap.size + 6]? = _ at bL
  generalize atC wr w.heap.size m = W at *
  refine ⟨by rw [← hz]; exact t.size, ⟨t.os.trans h.bel.os, t.tape.trans h.bel.tape, t.output.trans h.bel.output, Nat.le_trans h.bel.size t.size, fun x hx => (t.block x (by omega) (fun e => e)).trans (h.bel.block x hx)⟩, ?_, ?_, fun i hi => t.cell (h.c3 i hi) (fun e => e), cell_block bC 0⟩
  · exact ⟨cell_block bL 10, cell_block bL 17, cell_block bW 5, cell_block bW 6, cell_block bI 0, cell_block bT 0, Free.tch h.fT t (by show w.heap.size + 1 < _; omega) (fun e => e), Free.tch h.fU t (by show w.heap.size < _; omega) (fun e => e), free_made bC 0⟩
  · refine ⟨fun i hi => t.cell (h.t i hi) (fun e => e), fun i hi => ?_⟩
    have := h.s (S m o i) (S_lt ho hi)
    rw [P_S ho hi] at this
    exact t.cell this (fun e => e)

end Co
end Go.Proofs.Ybulkaylc
