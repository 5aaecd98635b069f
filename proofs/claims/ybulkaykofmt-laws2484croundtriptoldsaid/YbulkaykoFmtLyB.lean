import Derived.Test.YbulkaykoFmtLyA
import Derived.Deep.OwnRows
import Derived.Deep.AppendSrc
import Derived.BigRegion
import Derived.Deep.RegionWith
import Derived.Deep.DeepCutAuto
namespace Go.Proofs.YbulkaykoFmt
open Go.RowKit
set_option linter.unusedVariables false
namespace Ly

theorem info5 : (Ybaf.prog.info? 5).map (fun i => (i.zero, i.size, i.bytes)) = some (some (.int .u8 0), 1, 1) := by kernel_rfl

theorem make12 (n : Nat) (hn : n ≤ 4096) (w : World) :
    (Instr.makeSlice 23 (.int .i64 12) (.int .i64 (12 + (n : Int)))).run Ybaf.prog w = .ok (.slice (some ⟨w.heap.size, 0, none⟩) 12 (12 + n)) (w.alloc (.cells (madeCells #[.int .u8 0] (12 + n)) 5)) := by
  obtain ⟨i, hi, hzz⟩ := Option.map_eq_some_iff.1 info5
  simp only [Prod.mk.injEq] at hzz
  obtain ⟨hz, hs, hb⟩ := hzz
  have hr := run_make (P := Ybaf.prog) w 23 5 i _ Ybaf.underlying23 hi hz .i64 .i64 12 (12 + (n : Int)) (by omega) (by omega) (by rw [hb]; omega) (by omega)
  rw [hs] at hr
  rw [hr]
  have e : (12 + (n : Int)).toNat = 12 + n := by omega
  rw [e]
  simp [Value.cells]

theorem block_new (w : World) (o : Obj) : (w.alloc o).heap[w.heap.size]? = some o := by
  show (w.heap.push o)[w.heap.size]? = _; simp

theorem row_of_block {w : World} {g m : Nat} {z : Int} {e : TypeId} (h : w.heap[g]? = some (.cells (madeCells #[.int .u8 z] m) e)) : Row w g (fun _ => z) m := by
  refine ⟨(Array.getElem?_eq_some_iff.1 h).1, fun j hj => ?_, fun j => ?_⟩
  · unfold World.cell?
    rw [h]
    simp [madeCells, hj, Nat.mod_one]
  · unfold World.frozen?
    rw [h]
    simp

theorem row_made (w : World) (m : Nat) (z : Int) (e : TypeId) : Row (w.alloc (.cells (madeCells #[.int .u8 z] m) e)) w.heap.size (fun _ => z) m :=
  row_of_block (block_new _ _)

/-- What lies in the box of a parameter of seven cells. -/
def Box (w : World) (N : Nat) (a0 a1 a2 a3 a4 a5 a6 : Value) : Prop :=
  w.cell? ⟨N, 0, none⟩ = some a0 ∧ w.cell? ⟨N, 1, none⟩ = some a1 ∧ w.cell? ⟨N, 2, none⟩ = some a2 ∧ w.cell? ⟨N, 3, none⟩ = some a3 ∧ w.cell? ⟨N, 4, none⟩ = some a4 ∧ w.cell? ⟨N, 5, none⟩ = some a5 ∧ w.cell? ⟨N, 6, none⟩ = some a6

theorem box_made (w : World) (a0 a1 a2 a3 a4 a5 a6 : Value) (t : TypeId) : Box (w.alloc (.cells #[a0, a1, a2, a3, a4, a5, a6] t)) w.heap.size a0 a1 a2 a3 a4 a5 a6 := by
  unfold Box World.cell?
  rw [block_new]
  simp

theorem Box.below {w w' : World} {N B : Nat} {a0 a1 a2 a3 a4 a5 a6 : Value} (h : Box w N a0 a1 a2 a3 a4 a5 a6) (hb : Below B w w') (hN : N < B) : Box w' N a0 a1 a2 a3 a4 a5 a6 := by
  unfold Box at *
  rw [hb.cell (p := ⟨N, 0, none⟩) hN, hb.cell (p := ⟨N, 1, none⟩) hN, hb.cell (p := ⟨N, 2, none⟩) hN, hb.cell (p := ⟨N, 3, none⟩) hN, hb.cell (p := ⟨N, 4, none⟩) hN, hb.cell (p := ⟨N, 5, none⟩) hN, hb.cell (p := ⟨N, 6, none⟩) hN]
  exact h

/-- n bytes as cells. -/
def cellsOf (z : Nat → Int) (n : Nat) : List Value := (List.range n).map fun j => .int .u8 (z j)

theorem cellsOf_length (z : Nat → Int) (n : Nat) : (cellsOf z n).length = n := by simp [cellsOf]
theorem cellsOf_get (z : Nat → Int) (n j : Nat) (hj : j < n) : (cellsOf z n)[j]? = some (.int .u8 (z j)) := by simp [cellsOf, hj]
theorem cellsOf_inv {z : Nat → Int} {n j : Nat} {v : Value} (h : (cellsOf z n)[j]? = some v) : j < n ∧ v = .int .u8 (z j) := by
  have hj : j < n := by have := (List.getElem?_eq_some_iff.1 h).1; rwa [cellsOf_length] at this
  rw [cellsOf_get z n j hj] at h
  exact ⟨hj, (Option.some.inj h).symm⟩
theorem cellsOf_one {z : Nat → Int} {n : Nat} : ∀ u ∈ cellsOf z n, u.oneCell' = true := by
  intro u hu
  obtain ⟨j, _, rfl⟩ := List.mem_map.1 hu
  rfl

theorem size_setCells (g : Nat) : ∀ (vs : List Value) (o : Nat) (w : World), (w.setCells g o vs).heap.size = w.heap.size
  | [], _, _ => rfl
  | v :: r, o, w => by rw [World.setCells, size_setCells g r]; simp [World.setCell]

theorem below_setCells {B g : Nat} (hB : B ≤ g) : ∀ (vs : List Value) (o : Nat) (w : World), Below B w (w.setCells g o vs)
  | [], _, w => Below.refl _ _
  | v :: r, o, w => ((Below.refl B w).setCell (p := ⟨g, o, none⟩) hB v).trans (below_setCells hB r (o + 1) _)

theorem Row.setCells {w : World} {g m : Nat} {f : Nat → Int} (h : Row w g f m) (z : Nat → Int) (o n : Nat) (hm : o + n ≤ m) :
    Row (w.setCells g o (cellsOf z n)) g (fun j => if o ≤ j ∧ j < o + n then z (j - o) else f j) m := by
  refine ⟨by rw [size_setCells]; exact h.lt, fun j hj => ?_, fun j => by rw [World.frozen?_setCells]; exact h.free j⟩
  show _ = some (Value.int .u8 (if o ≤ j ∧ j < o + n then z (j - o) else f j))
  by_cases e : o ≤ j ∧ j < o + n
  · rw [if_pos e]
    have hin := World.cell?_setCells_in g (cellsOf z n) o w (fun i hi => by rw [h.cell (o + i) (by rw [cellsOf_length] at hi; omega)]; rfl) (j - o) (by rw [cellsOf_length]; omega)
    rw [show o + (j - o) = j from by omega] at hin
    rw [hin]
    have := cellsOf_get z n (j - o) (by omega)
    rw [List.getElem?_eq_getElem (by rw [cellsOf_length]; omega)] at this
    exact this
  · rw [if_neg e, World.cell?_setCells_out g _ _ _ _ (fun _ _ => by rw [cellsOf_length]; show j < o ∨ o + n ≤ j; omega)]
    exact h.cell j hj

/-- The encoding, byte by byte. -/
def encB (opc dpc si ni mp sls : Int) (z : Nat → Int) (n : Nat) : Nat → Int :=
  fun j => if 12 ≤ j ∧ j < 12 + n then z (j - 12) else (upd (upd (upd (upd (put (put (fun _ => 0) 0 opc) 4 dpc) 8 si) 9 ni) 10 mp) 11 sls) j

theorem load_row (P : Program) {g n : Nat} {z : Nat → Int} {w : World} (hr : Row w g z n) :
    Sem.run P (loadCellsFrom ⟨g, 0, none⟩ 0 n #[]) w = .ok (cellsOf z n).toArray w := by
  have h := run_loadCells_list (P := P) (w := w) ⟨g, 0, none⟩ (cellsOf z n) (fun j u hu => by
    obtain ⟨hj, rfl⟩ := cellsOf_inv hu
    rw [Addr.add_lit, Nat.zero_add]; exact hr.cell j hj)
  rw [cellsOf_length] at h
  exact h

theorem store_row (P : Program) {g o n m : Nat} {z f : Nat → Int} {w : World} (hr : Row w g f m) (hm : o + n ≤ m) :
    Sem.run P (storeCells ⟨g, o, none⟩ (cellsOf z n)) w = .ok () (w.setCells g o (cellsOf z n)) :=
  run_storeCells_cells (P := P) g o (cellsOf z n) 0 w (fun j hj => by rw [cellsOf_length] at hj; rw [Nat.add_zero, hr.cell (o + j) (by omega)]; rfl) (fun j hj => hr.free _) cellsOf_one

set_option maxHeartbeats 1000000 in
theorem encode (opc dpc si ni mp sls : Int) (g n : Nat) (z : Nat → Int) (w : World) (h0 : 0 ≤ opc) (h1 : opc < 4294967296) (h2 : 0 ≤ dpc) (h3 : dpc < 4294967296) (hn : n ≤ 4096) (hr : Row w g z n) :
    Calls Ybaf.prog 5 #[.agg #[.int .u32 opc, .int .u32 dpc, .int .u8 si, .int .u8 ni, .int .u8 mp, .int .u8 sls, .slice (some ⟨g, 0, none⟩) n n]] w fun e w' => e = .returned (.slice (some ⟨w.heap.size + 1, 0, none⟩) (12 + n) (12 + n)) ∧ Row w' (w.heap.size + 1) (encB opc dpc si ni mp sls z n) (12 + n) ∧ Below w.heap.size w w' := by
  have hmk := make12 n hn
  go_enter Ybaf.func5, Ybaf.ntmps5
  go_wp2_with fail
  clear hmk
  generalize hW0 : ((w.alloc (.cells #[.int .u32 opc, .int .u32 dpc, .int .u8 si, .int .u8 ni, .int .u8 mp, .int .u8 sls, .slice (some ⟨g, 0, none⟩) n n] 26)).alloc (.cells (madeCells #[.int .u8 0] (12 + n)) 5)) = W0
  have hB0 : Below w.heap.size w W0 := by
    subst hW0; exact ((Below.refl _ _).alloc (Nat.le_refl _) _).alloc (by simp) _
  have hr0 : Row W0 (w.heap.size + 1) (fun _ => 0) (12 + n) := by
    subst hW0
    have := row_made (w.alloc (.cells #[.int .u32 opc, .int .u32 dpc, .int .u8 si, .int .u8 ni, .int .u8 mp, .int .u8 sls, .slice (some ⟨g, 0, none⟩) n n] 26)) (12 + n) 0 5
    simpa using this
  have hx0 : Box W0 w.heap.size (.int .u32 opc) (.int .u32 dpc) (.int .u8 si) (.int .u8 ni) (.int .u8 mp) (.int .u8 sls) (.slice (some ⟨g, 0, none⟩) n n) := by
    subst hW0
    exact (box_made w _ _ _ _ _ _ _ 26).below ((Below.refl (w.heap.size + 1) _).alloc (by simp) _) (by omega)
  clear hW0
  refine (put32 (w.heap.size + 1) 0 12 (12 + n) (12 + n) opc (fun _ => 0) W0 h0 h1 (by omega) (by omega) hr0).mono ?_
  rintro e W1 ⟨rfl, hr1, hb1⟩
  have hB1 := hB0.trans (hb1.mono (Nat.le_succ _))
  have hx1 := hx0.below hb1 (by omega)
  clear hb1 hx0 hr0 hB0
  have hP := put32 (w.heap.size + 1) 4 8 (12 + n - 4) (12 + n) dpc _ W1.drew h2 h3 (by omega) (by omega) hr1.drew
  have HX := hx1
  have hne : ¬ 12 + n = 4 := by omega
  have HR : Hid (Row W1 (w.heap.size + 1) (put (fun _ => 0) 0 opc) (12 + n)) := hr1
  obtain ⟨x0, x1, x2, x3, x4, x5, x6⟩ := hx1
  go_wp2_with fail
  go_cut [19] (fun s w2 => s = .tuple #[] ∧ Row w2 (w.heap.size + 1) (put (put (fun _ => 0) 0 opc) 4 dpc) (12 + n) ∧ Below (w.heap.size + 1) W1 w2)
  case first =>
    go_region_with (go_at_call 9; refine hP.mono ?_; rintro e w2 ⟨rfl, hr2, hb2⟩)
    all_goals
      go_wp2_with fail
      go_meet
      case rel => exact ⟨rfl, hr2, ((Below.refl _ _).drew).trans hb2⟩
  case rest =>
    obtain ⟨rfl, hr2, hb2⟩ := hcut
    have hB2 := hB1.trans (hb2.mono (Nat.le_succ _))
    have hx2 := Box.below HX hb2 (by omega)
    clear hP HX HR hr1 hB1 hb2 x0 x1 x2 x3 x4 x5 x6
    have hX2 := hx2
    obtain ⟨x0, x1, x2, x3, x4, x5, x6⟩ := hx2
    have c8 := hr2.cell 8 (by omega)
    have c9 := hr2.cell 9 (by omega)
    have c10 := hr2.cell 10 (by omega)
    have c11 := hr2.cell 11 (by omega)
    have f8 := hr2.free 8
    have f9 := hr2.free 9
    have f10 := hr2.free 10
    have f11 := hr2.free 11
    generalize hF : put (put (fun _ => 0) 0 opc) 4 dpc = F at *
    have HF : Hid (put (put (fun _ => 0) 0 opc) 4 dpc = F) := hF
    clear hF
    go_wp2_with fail
    go_cut [35] (fun s w3 => Row w3 (w.heap.size + 1) (upd (upd (upd (upd F 8 si) 9 ni) 10 mp) 11 sls) (12 + n) ∧ Below (w.heap.size + 1) wc w3)
    case first =>
      go_region
      go_wp2_with fail
      go_meet
      case rel =>
        exact ⟨((((hr2.set 8 _ (by omega)).set 9 _ (by omega)).set 10 _ (by omega)).set 11 _ (by omega)).drew,
          (((((Below.refl _ wc).setCell (p := ⟨w.heap.size + 1, 8, none⟩) (Nat.le_refl _) _).setCell (p := ⟨w.heap.size + 1, 9, none⟩) (Nat.le_refl _) _).setCell (p := ⟨w.heap.size + 1, 10, none⟩) (Nat.le_refl _) _).setCell (p := ⟨w.heap.size + 1, 11, none⟩) (Nat.le_refl _) _).drew⟩
    case rest =>
      obtain ⟨hr3, hb3⟩ := hcut
      have hB3 := hB2.trans (hb3.mono (Nat.le_succ _))
      have hx3 := Box.below hX2 hb3 (by omega)
      clear hX2 hr2 hb3 hB2 x0 x1 x2 x3 x4 x5 x6 c8 c9 c10 c11 f8 f9 f10 f11
      obtain ⟨x0, x1, x2, x3, x4, x5, x6⟩ := hx3
      have hrz := hr.below hB3 hr.lt
      have hl := load_row Ybaf.prog hrz
      have hst := store_row Ybaf.prog (o := 12) (n := n) (z := z) hr3 (Nat.le_refl _)
      go_wp2
      go_ret
      refine ⟨rfl, ?_, hB3.trans (below_setCells (Nat.le_succ _) _ _ _)⟩
      have hfin := hr3.setCells z 12 n (Nat.le_refl _)
      rw [← HF.out] at hfin
      exact hfin

end Ly
end Go.Proofs.YbulkaykoFmt
