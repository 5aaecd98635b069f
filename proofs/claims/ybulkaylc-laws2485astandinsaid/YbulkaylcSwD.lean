import Derived.Test.YbulkaylcSwC
import Derived.Deep.OwnRows
import Derived.Laws.IdiomCopy
namespace Go.Proofs.Ybulkaylc
open Go.RowKit
set_option linter.unusedVariables false
namespace Sw

theorem i90 : (Yba.prog.info? 90).map (fun i => (i.zero, i.size, decide (i.bytes ≤ 256))) = some (some (.agg #[.slice none 0 0, .slice none 0 0, .int .i32 0, .int .i32 0, .int .u8 0, .bool false, .bool false, .bool false, .bool false, .int .i32 0, .int .i32 0]), 11, true) := by kernel_rfl
theorem i84 : (Yba.prog.info? 84).map (fun i => (i.zero, i.size, decide (i.bytes ≤ 256))) = some (some (.agg #[.int .i32 0, .int .i32 0, .int .i32 0, .int .u8 0, .int .u8 0, .bool false]), 6, true) := by kernel_rfl

def There (w : World) (g K : Nat) : Prop := ∀ j, j < K → ∃ x, w.cell? ⟨g, j, none⟩ = some x
def Free (w : World) (g : Nat) : Prop := ∀ j, w.frozen? ⟨g, j, none⟩ = false

theorem there_made {w : World} {g K : Nat} {z : Array Value} {e : TypeId} (h : w.heap[g]? = some (.cells (madeCells z K) e)) : There w g K := fun j hj => by
  unfold World.cell?
  rw [h]
  exact ⟨(madeCells z K)[j]'(by rw [size_madeCells]; exact hj), by simp [size_madeCells, hj]⟩
theorem free_made {w : World} {g : Nat} {cs : Array Value} {e : TypeId} (h : w.heap[g]? = some (.cells cs e)) : Free w g := fun j => by
  unfold World.frozen?
  rw [h]
  simp

theorem There.set {w : World} {g K : Nat} (h : There w g K) (a : Addr) (v : Value) : There (w.setCell a v) g K := fun j hj => by
  obtain ⟨x, hx⟩ := h j hj
  by_cases e : a = ⟨g, j, none⟩
  · subst e; exact ⟨v, World.cell?_setCell_same _ _ _ hx⟩
  · exact ⟨x, by rw [World.cell?_setCell_other _ _ _ _ e]; exact hx⟩
theorem There.six {w : World} {g K : Nat} (h : There w g K) (p o : Nat) (v0 v1 v2 v3 v4 v5 : Value) : There (Sw.six w p o v0 v1 v2 v3 v4 v5) g K := by
  unfold Sw.six
  exact (((((h.set _ _).set _ _).set _ _).set _ _).set _ _).set _ _
theorem There.alloc {w : World} {g K : Nat} (h : There w g K) (o : Obj) : There (w.alloc o) g K := fun j hj => by
  obtain ⟨x, hx⟩ := h j hj
  exact ⟨x, by rw [World.cell?_of_block (w := w) (Below.heap_alloc _ _ _ (lt_of_cell (p := ⟨g, j, none⟩) hx))]; exact hx⟩
theorem There.drewN {w : World} {g K : Nat} (h : There w g K) (n : Nat) : There (w.drewN n) g K := h
theorem Free.set {w : World} {g : Nat} (h : Free w g) (a : Addr) (v : Value) : Free (w.setCell a v) g := fun j => by rw [World.frozen?_setCell]; exact h j
theorem Free.six {w : World} {g : Nat} (h : Free w g) (p o : Nat) (v0 v1 v2 v3 v4 v5 : Value) : Free (Sw.six w p o v0 v1 v2 v3 v4 v5) g := fun j => by rw [six_frozen]; exact h j
theorem Free.alloc {w : World} {g : Nat} (h : Free w g) (hg : g < w.heap.size) (o : Obj) : Free (w.alloc o) g := fun j => by
  rw [World.frozen?_of_block (w := w) (Below.heap_alloc _ _ _ hg)]; exact h j

theorem make30 (m : Nat) (hm : m + 1 ≤ 1024) (w : World) :
    ∃ o, (Instr.makeSlice 30 (.int .i64 ((m : Int) + 1)) (.int .i64 ((m : Int) + 1))).run Yba.prog w = .ok (.slice (some ⟨w.heap.size, 0, none⟩) (m + 1) (m + 1)) (w.alloc o) ∧ ∃ z, o = .cells (madeCells z ((m + 1) * 11)) 90 := by
  obtain ⟨i, hi, hzz⟩ := Option.map_eq_some_iff.1 i90
  simp only [Prod.mk.injEq] at hzz
  obtain ⟨hz, hs, hb⟩ := hzz
  have hb' : i.bytes ≤ 256 := of_decide_eq_true hb
  have hbm : (i.bytes : Int) * ((m : Int) + 1) ≤ 256 * 1024 := Int.mul_le_mul (by omega) (by omega) (by omega) (by omega)
  have hr := run_make (P := Yba.prog) w 30 90 i _ Yba.underlying30 hi hz .i64 .i64 ((m : Int) + 1) ((m : Int) + 1) (by omega) (by omega) (by omega) (by omega)
  rw [hs] at hr
  have e : ((m : Int) + 1).toNat = m + 1 := by omega
  rw [e] at hr
  exact ⟨_, hr, _, rfl⟩

theorem make82 (m : Nat) (hm : m + 1 ≤ 1024) (w : World) :
    ∃ o, (Instr.makeSlice 82 (.int .i64 ((m : Int) + 1)) (.int .i64 ((m : Int) + 1))).run Yba.prog w = .ok (.slice (some ⟨w.heap.size, 0, none⟩) (m + 1) (m + 1)) (w.alloc o) ∧ ∃ z, o = .cells (madeCells z ((m + 1) * 6)) 84 := by
  obtain ⟨i, hi, hzz⟩ := Option.map_eq_some_iff.1 i84
  simp only [Prod.mk.injEq] at hzz
  obtain ⟨hz, hs, hb⟩ := hzz
  have hb' : i.bytes ≤ 256 := of_decide_eq_true hb
  have hbm : (i.bytes : Int) * ((m : Int) + 1) ≤ 256 * 1024 := Int.mul_le_mul (by omega) (by omega) (by omega) (by omega)
  have hr := run_make (P := Yba.prog) w 82 84 i _ Yba.underlying82 hi hz .i64 .i64 ((m : Int) + 1) ((m : Int) + 1) (by omega) (by omega) (by omega) (by omega)
  rw [hs] at hr
  have e : ((m : Int) + 1).toNat = m + 1 := by omega
  rw [e] at hr
  exact ⟨_, hr, _, rfl⟩

/-- What the filling loop keeps. -/
structure Fill (w wr : World) (m k : Nat) (tg : Nat → Int) : Prop where
  size : wr.heap.size = w.heap.size + 2 + k
  bel : Below w.heap.size w wr
  tT : There wr w.heap.size ((m + 1) * 11)
  fT : Free wr w.heap.size
  tH : There wr (w.heap.size + 1) ((m + 1) * 6)
  fH : Free wr (w.heap.size + 1)
  cT : ∀ i, i < k → wr.cell? ⟨w.heap.size, i * 11, none⟩ = some (.slice (some ⟨w.heap.size + 2 + i, 0, none⟩) 1 1)
  r0 : ∀ i, i < k → wr.cell? ⟨w.heap.size + 1, i * 6, none⟩ = some (.int .i32 i)
  r1 : ∀ i, i < k → wr.cell? ⟨w.heap.size + 1, i * 6 + 1, none⟩ = some (.int .i32 0)
  r2 : ∀ i, i < k → wr.cell? ⟨w.heap.size + 1, i * 6 + 2, none⟩ = some (.int .i32 (tg i))
  r3 : ∀ i, i < k → wr.cell? ⟨w.heap.size + 1, i * 6 + 3, none⟩ = some (.int .u8 0)
  r4 : ∀ i, i < k → wr.cell? ⟨w.heap.size + 1, i * 6 + 4, none⟩ = some (.int .u8 3)
  r5 : ∀ i, i < k → wr.cell? ⟨w.heap.size + 1, i * 6 + 5, none⟩ = some (.bool false)
  u0 : ∀ i, i < k → wr.cell? ⟨w.heap.size + 2 + i, 0, none⟩ = some (.int .i32 0)
  u2 : ∀ i, i < k → wr.cell? ⟨w.heap.size + 2 + i, 2, none⟩ = some (.int .u8 3)
  u6 : ∀ i, i < k → wr.cell? ⟨w.heap.size + 2 + i, 6, none⟩ = some (.int .i32 i)
  fU : ∀ i, i < k → Free wr (w.heap.size + 2 + i)

/-- One round's world, ahead of its new block (in the walk's spelling the new block is the last). -/
def rnd0 (wr : World) (N k : Nat) (t : Int) : World :=
  (((six wr (N + 1) (k * 6) (.int .i32 k) (.int .i32 0) (.int .i32 t) (.int .u8 0) (.int .u8 3) (.bool false)).setCell ⟨N, k * 11, none⟩ (.slice (some ⟨N + 2 + k, 0, none⟩) 1 1)).setCell ⟨N, k * 11 + 2, none⟩ (.int .i32 (-1)))
/-- One round's world. -/
def rnd (wr : World) (N k : Nat) (t : Int) : World :=
  (rnd0 wr N k t).alloc (.cells #[.int .i32 0, .int .u8 0, .int .u8 3, .bool false, .bool false, .int .i32 0, .int .i32 k, .int .i32 0, .int .i32 0] 86)

set_option maxHeartbeats 1000000 in
theorem Fill.step {w wr : World} {m k : Nat} {tg : Nat → Int} (h : Fill w wr m k tg) (hk : k < m + 1) : Fill w (rnd wr w.heap.size k (tg k)) m (k + 1) tg := by
  have hz : (rnd0 wr w.heap.size k (tg k)).heap.size = w.heap.size + 2 + k := by
    simp [rnd0, six, World.setCell, h.size]
  -- a block below the new one, read through the new one
  have hal : ∀ a : Addr, a.block < w.heap.size + 2 + k → (rnd wr w.heap.size k (tg k)).cell? a = (rnd0 wr w.heap.size k (tg k)).cell? a :=
    fun a ha => World.cell?_of_block (Below.heap_alloc _ _ _ (by rw [hz]; exact ha))
  -- outside block N
  have hoN : ∀ a : Addr, a.block ≠ w.heap.size → (rnd0 wr w.heap.size k (tg k)).cell? a = (six wr (w.heap.size + 1) (k * 6) (.int .i32 k) (.int .i32 0) (.int .i32 (tg k)) (.int .u8 0) (.int .u8 3) (.bool false)).cell? a :=
    fun a ha => by unfold rnd0; rw [World.cell?_setCell_other _ _ _ _ (fun e => ha (by rw [← e])), World.cell?_setCell_other _ _ _ _ (fun e => ha (by rw [← e]))]
  have hin := six_in wr (w.heap.size + 1) (k * 6) (.int .i32 k) (.int .i32 0) (.int .i32 (tg k)) (.int .u8 0) (.int .u8 3) (.bool false) (fun j hj => by obtain ⟨x, hx⟩ := h.tH (k * 6 + j) (by omega); rw [hx]; rfl)
  have hrow : ∀ i c, i < k → c < 6 → (six wr (w.heap.size + 1) (k * 6) (.int .i32 k) (.int .i32 0) (.int .i32 (tg k)) (.int .u8 0) (.int .u8 3) (.bool false)).cell? ⟨w.heap.size + 1, i * 6 + c, none⟩ = wr.cell? ⟨w.heap.size + 1, i * 6 + c, none⟩ :=
    fun i c hi hc => six_out _ _ _ _ _ _ _ _ _ _ (fun _ _ => by show i * 6 + c < k * 6 ∨ k * 6 + 6 ≤ i * 6 + c; omega)
  have hH : ∀ o : Nat, (rnd wr w.heap.size k (tg k)).cell? ⟨w.heap.size + 1, o, none⟩ = (six wr (w.heap.size + 1) (k * 6) (.int .i32 k) (.int .i32 0) (.int .i32 (tg k)) (.int .u8 0) (.int .u8 3) (.bool false)).cell? ⟨w.heap.size + 1, o, none⟩ :=
    fun o => (hal ⟨w.heap.size + 1, o, none⟩ (by show w.heap.size + 1 < _; omega)).trans (hoN ⟨w.heap.size + 1, o, none⟩ (by show w.heap.size + 1 ≠ _; omega))
  have hU : ∀ i o : Nat, i < k → (rnd wr w.heap.size k (tg k)).cell? ⟨w.heap.size + 2 + i, o, none⟩ = wr.cell? ⟨w.heap.size + 2 + i, o, none⟩ := fun i o hi =>
    ((hal ⟨w.heap.size + 2 + i, o, none⟩ (by show w.heap.size + 2 + i < _; omega)).trans (hoN ⟨w.heap.size + 2 + i, o, none⟩ (by show w.heap.size + 2 + i ≠ _; omega))).trans (six_out _ _ _ _ _ _ _ _ _ _ (fun e _ => by exfalso; have : w.heap.size + 2 + i = w.heap.size + 1 := e; omega))
  have hnew : (rnd wr w.heap.size k (tg k)).heap[w.heap.size + 2 + k]? = some (.cells #[.int .i32 0, .int .u8 0, .int .u8 3, .bool false, .bool false, .int .i32 0, .int .i32 k, .int .i32 0, .int .i32 0] 86) := by
    have := block_new (rnd0 wr w.heap.size k (tg k)) (.cells #[.int .i32 0, .int .u8 0, .int .u8 3, .bool false, .bool false, .int .i32 0, .int .i32 k, .int .i32 0, .int .i32 0] 86)
    rwa [hz] at this
  have hnc : ∀ o : Nat, (rnd wr w.heap.size k (tg k)).cell? ⟨w.heap.size + 2 + k, o, none⟩ = (#[Value.int .i32 0, .int .u8 0, .int .u8 3, .bool false, .bool false, .int .i32 0, .int .i32 k, .int .i32 0, .int .i32 0])[o]? := fun o => by
    simp [World.cell?, hnew]
  have hrec : ∀ {p : Nat → Prop}, (∀ i, i < k → p i) → p k → ∀ i, i < k + 1 → p i := fun {p} h1 h2 i hi => by
    rcases Nat.lt_or_ge i k with h' | h'
    · exact h1 i h'
    · obtain rfl : i = k := by omega
      exact h2
  have hbl : ∀ x : Nat, x < w.heap.size + 2 + k → (rnd wr w.heap.size k (tg k)).heap[x]? = (rnd0 wr w.heap.size k (tg k)).heap[x]? :=
    fun x hx => Below.heap_alloc _ _ _ (by rw [hz]; exact hx)
  have htc : Tch (fun k => k = w.heap.size ∨ k = w.heap.size + 1) wr (rnd wr w.heap.size k (tg k)) :=
    (((six_tch (S := fun k => k = w.heap.size ∨ k = w.heap.size + 1) _ _ _ _ _ _ _ _ _ (Or.inr rfl)).setCell (p := ⟨w.heap.size, k * 11, none⟩) (Or.inl rfl) _).setCell (p := ⟨w.heap.size, k * 11 + 2, none⟩) (Or.inl rfl) _).alloc _
  have tT0 : There (rnd0 wr w.heap.size k (tg k)) w.heap.size ((m + 1) * 11) := by unfold rnd0; exact ((h.tT.six _ _ _ _ _ _ _ _).set _ _).set _ _
  have tH0 : There (rnd0 wr w.heap.size k (tg k)) (w.heap.size + 1) ((m + 1) * 6) := by unfold rnd0; exact ((h.tH.six _ _ _ _ _ _ _ _).set _ _).set _ _
  have fT0 : Free (rnd0 wr w.heap.size k (tg k)) w.heap.size := by unfold rnd0; exact ((h.fT.six _ _ _ _ _ _ _ _).set _ _).set _ _
  have fH0 : Free (rnd0 wr w.heap.size k (tg k)) (w.heap.size + 1) := by unfold rnd0; exact ((h.fH.six _ _ _ _ _ _ _ _).set _ _).set _ _
  have sz : (rnd wr w.heap.size k (tg k)).heap.size = w.heap.size + 2 + (k + 1) := by unfold rnd; rw [World.size_alloc, hz]; omega
  have tT1 : There (rnd wr w.heap.size k (tg k)) w.heap.size ((m + 1) * 11) := tT0.alloc _
  have tH1 : There (rnd wr w.heap.size k (tg k)) (w.heap.size + 1) ((m + 1) * 6) := tH0.alloc _
  have fT1 : Free (rnd wr w.heap.size k (tg k)) w.heap.size := fT0.alloc (by rw [hz]; omega) _
  have fH1 : Free (rnd wr w.heap.size k (tg k)) (w.heap.size + 1) := fH0.alloc (by rw [hz]; omega) _
  have cTo : ∀ i, i < k → (rnd wr w.heap.size k (tg k)).cell? ⟨w.heap.size, i * 11, none⟩ = some (.slice (some ⟨w.heap.size + 2 + i, 0, none⟩) 1 1) := fun i hi => by
    rw [hal _ (by show w.heap.size < _; omega)]
    unfold rnd0
    rw [World.cell?_setCell_other _ _ _ _ (fun e => by injection e; omega), World.cell?_setCell_other _ _ _ _ (fun e => by injection e; omega), six_out _ _ _ _ _ _ _ _ _ _ (fun e _ => by exfalso; have : w.heap.size = w.heap.size + 1 := e; omega)]
    exact h.cT i hi
  have cTn : (rnd wr w.heap.size k (tg k)).cell? ⟨w.heap.size, k * 11, none⟩ = some (.slice (some ⟨w.heap.size + 2 + k, 0, none⟩) 1 1) := by
    rw [hal _ (by show w.heap.size < _; omega)]
    unfold rnd0
    rw [World.cell?_setCell_other _ _ _ _ (fun e => by injection e; omega)]
    obtain ⟨x, hx⟩ := (h.tT.six (w.heap.size + 1) (k * 6) (.int .i32 k) (.int .i32 0) (.int .i32 (tg k)) (.int .u8 0) (.int .u8 3) (.bool false)) (k * 11) (by omega)
    exact World.cell?_setCell_same _ _ _ hx
  have n0 := (hH _).trans hin.1
  have n1 := (hH _).trans hin.2.1
  have n2 := (hH _).trans hin.2.2.1
  have n3 := (hH _).trans hin.2.2.2.1
  have n4 := (hH _).trans hin.2.2.2.2.1
  have n5 := (hH _).trans hin.2.2.2.2.2
  have o0 := fun i (hi : i < k) => ((hH (i * 6)).trans (hrow i 0 hi (by omega))).trans (h.r0 i hi)
  have o1 := fun i (hi : i < k) => ((hH (i * 6 + 1)).trans (hrow i 1 hi (by omega))).trans (h.r1 i hi)
  have o2 := fun i (hi : i < k) => ((hH (i * 6 + 2)).trans (hrow i 2 hi (by omega))).trans (h.r2 i hi)
  have o3 := fun i (hi : i < k) => ((hH (i * 6 + 3)).trans (hrow i 3 hi (by omega))).trans (h.r3 i hi)
  have o4 := fun i (hi : i < k) => ((hH (i * 6 + 4)).trans (hrow i 4 hi (by omega))).trans (h.r4 i hi)
  have o5 := fun i (hi : i < k) => ((hH (i * 6 + 5)).trans (hrow i 5 hi (by omega))).trans (h.r5 i hi)
  clear hal hoN hin hrow hH tT0 tH0 fT0 fH0 hz hbl
  generalize rnd wr w.heap.size k (tg k) = R at *
  have x0 := (hnc 0).trans rfl
  have x2 := (hnc 2).trans rfl
  have x6 := (hnc 6).trans rfl
  refine ⟨sz, ?_, tT1, fT1, tH1, fH1, ?_, ?_, ?_, ?_, ?_, ?_, ?_, ?_, ?_, ?_, ?_⟩
  · exact ⟨htc.os.trans h.bel.os, htc.tape.trans h.bel.tape, htc.output.trans h.bel.output, Nat.le_trans h.bel.size htc.size, fun j hj => (htc.block j (by rw [h.size]; omega) (by omega)).trans (h.bel.block j hj)⟩
  · exact hrec cTo cTn
  · exact hrec o0 n0
  · exact hrec o1 n1
  · exact hrec o2 n2
  · exact hrec o3 n3
  · exact hrec o4 n4
  · exact hrec o5 n5
  · exact hrec (fun i hi => (hU i 0 hi).trans (h.u0 i hi)) x0
  · exact hrec (fun i hi => (hU i 2 hi).trans (h.u2 i hi)) x2
  · exact hrec (fun i hi => (hU i 6 hi).trans (h.u6 i hi)) x6
  · have fn : Free R (w.heap.size + 2 + k) := free_made hnew
    refine hrec (fun i hi => ?_) fn
    intro j
    rw [World.frozen?_of_block (w := wr) (htc.block (w.heap.size + 2 + i) (by rw [h.size]; omega) (by omega))]
    exact h.fU i hi j

end Sw
end Go.Proofs.Ybulkaylc
