import Derived.Test.YbulkaykoFmtLyB
import Derived.Lib.EndianBits
import Derived.Deep.RegionHeld3
namespace Go.Proofs.YbulkaykoFmt
open Go.RowKit
set_option linter.unusedVariables false
namespace Ly

theorem hide {p : Prop} (h : p) : Hid p := h

theorem be_bd (v : Int) (k : Nat) (h0 : 0 ≤ v) (h1 : v < 4294967296) : 0 ≤ be v k ∧ be v k < 256 := by
  match k with
  | 0 => simp only [be]; omega
  | 1 => simp only [be]; omega
  | 2 => simp only [be]; omega
  | k + 3 => simp only [be]; omega

theorem be_sum (v : Int) (h0 : 0 ≤ v) (h1 : v < 4294967296) : be v 3 + be v 2 * 256 + be v 1 * 65536 + be v 0 * 16777216 = v := by
  simp only [be]; omega

theorem ret_int {k : IntKind} {a b : Int} (h : a = b) : Ending.returned (.int k a) = .returned (.int k b) := by rw [h]

theorem below_drewN {B : Nat} {a w : World} (h : Below B a w) (n : Nat) : Below B a (w.drewN n) := ⟨h.os, h.tape, h.output, h.size, h.block⟩

theorem or_sum (b0 b1 b2 b3 : Int) (d00 : 0 ≤ b0) (d01 : b0 < 256) (d10 : 0 ≤ b1) (d11 : b1 < 256) (d20 : 0 ≤ b2) (d21 : b2 < 256) (d30 : 0 ≤ b3) (d31 : b3 < 256) :
    bits BinOp.or IntKind.u32 (bits BinOp.or IntKind.u32 (bits BinOp.or IntKind.u32 b3 (b2 * 256)) (b1 * 65536)) (b0 * 16777216) = b3 + b2 * 256 + b1 * 65536 + b0 * 16777216 := by
  rw [u32_or8 b3 (b2 * 256) d30 d31 (by omega) (by omega) (by omega), u32_or16 _ (b1 * 65536) (by omega) (by omega) (by omega) (by omega) (by omega), u32_or24 _ (b0 * 16777216) (by omega) (by omega) (by omega) (by omega) (by omega)]

set_option maxHeartbeats 400000 in
theorem uint32 (g o n c m : Nat) (v : Int) (f : Nat → Int) (w : World) (h0 : 0 ≤ v) (h1 : v < 4294967296) (hn : 4 ≤ n) (hm : o + 4 ≤ m) (hr : Row w g f m)
    (e0 : f o = be v 0) (e1 : f (o + 1) = be v 1) (e2 : f (o + 2) = be v 2) (e3 : f (o + 3) = be v 3) :
    Calls Ybaf.prog 8 #[.agg #[], .slice (some ⟨g, o, none⟩) n c] w fun e w' => e = .returned (.int .u32 v) ∧ Below w.heap.size w w' := by
  have c0 := hr.cell o (by omega)
  have c1 := hr.cell (o + 1) (by omega)
  have c2 := hr.cell (o + 2) (by omega)
  have c3 := hr.cell (o + 3) (by omega)
  rw [e0] at c0
  rw [e1] at c1
  rw [e2] at c2
  rw [e3] at c3
  have hlt := hr.lt
  have n0 : 0 < n := by omega
  have n1 : (1 : Int) < (n : Int) := by omega
  have n2 : (2 : Int) < (n : Int) := by omega
  have n3 : (3 : Int) < (n : Int) := by omega
  have hs := hide (be_sum v h0 h1)
  have d0 := be_bd v 0 h0 h1
  have d1 := be_bd v 1 h0 h1
  have d2 := be_bd v 2 h0 h1
  have d3 := be_bd v 3 h0 h1
  clear e0 e1 e2 e3 hr h0 h1
  generalize be v 0 = b0 at *
  generalize be v 1 = b1 at *
  generalize be v 2 = b2 at *
  generalize be v 3 = b3 at *
  obtain ⟨d00, d01⟩ := d0
  obtain ⟨d10, d11⟩ := d1
  obtain ⟨d20, d21⟩ := d2
  obtain ⟨d30, d31⟩ := d3
  go_enter Ybaf.func8, Ybaf.ntmps8
  go_wp2
  go_quiet (fail)
  go_wp2
  go_ret
  exact ⟨ret_int ((or_sum b0 b1 b2 b3 d00 d01 d10 d11 d20 d21 d30 d31).trans hs.out), below_drewN ((Below.refl _ _).alloc (Nat.le_refl _) _) nq⟩

/-- What holds of the world all through the reader's one statement. -/
structure Y (w W : World) (G n : Nat) (f : Nat → Int) : Prop where
  row : Row W G f (12 + n)
  own : ∃ cs : Array Value, W.heap[w.heap.size]? = some (.cells cs 26) ∧ cs.size = 7
  bel : Below w.heap.size w W

theorem Y.drew {w W : World} {G n : Nat} {f : Nat → Int} (h : Y w W G n f) : Y w W.drew G n f := ⟨h.row.drew, h.own, h.bel.drew⟩

theorem Y.later {w W W' : World} {G n : Nat} {f : Nat → Int} (h : Y w W G n f) (hb : Below W.heap.size W W') : Y w W' G n f := by
  obtain ⟨cs, hc, hs⟩ := h.own
  have hlt : w.heap.size < W.heap.size := (Array.getElem?_eq_some_iff.1 hc).1
  exact ⟨h.row.below hb h.row.lt, ⟨cs, by rw [hb.block _ hlt]; exact hc, hs⟩, h.bel.trans (hb.mono h.bel.size)⟩

theorem Y.set {w W : World} {G n : Nat} {f : Nat → Int} (h : Y w W G n f) (hG : G < w.heap.size) (j : Nat) (v : Value) : Y w (W.setCell ⟨w.heap.size, j, none⟩ v) G n f := by
  refine ⟨h.row.below ((Below.refl w.heap.size W).setCell (p := ⟨w.heap.size, j, none⟩) (Nat.le_refl _) v) hG, ?_, h.bel.setCell (p := ⟨w.heap.size, j, none⟩) (Nat.le_refl _) v⟩
  obtain ⟨cs, hc, hs⟩ := h.own
  refine ⟨cs.setIfInBounds j v, ?_, by simpa using hs⟩
  simp only [World.setCell, Array.getElem?_modify, if_true, hc, Option.map_some]
  simp

/-- The seven cells of the result are there, and may be written. -/
def Seven (W : World) (N : Nat) : Prop :=
  ∃ a0 a1 a2 a3 a4 a5 a6 : Value, W.cell? ⟨N, 0, none⟩ = some a0 ∧ W.cell? ⟨N, 1, none⟩ = some a1 ∧ W.cell? ⟨N, 2, none⟩ = some a2 ∧ W.cell? ⟨N, 3, none⟩ = some a3 ∧ W.cell? ⟨N, 4, none⟩ = some a4 ∧ W.cell? ⟨N, 5, none⟩ = some a5 ∧ W.cell? ⟨N, 6, none⟩ = some a6

theorem Y.cells {w W : World} {G n : Nat} {f : Nat → Int} (h : Y w W G n f) : Seven W w.heap.size := by
  obtain ⟨cs, hc, hs⟩ := h.own
  have hg : ∀ j, j < 7 → ∃ a, W.cell? ⟨w.heap.size, j, none⟩ = some a := fun j hj => by
    unfold World.cell?
    rw [hc]
    exact ⟨cs[j]'(by omega), by simp⟩
  obtain ⟨a0, q0⟩ := hg 0 (by omega)
  obtain ⟨a1, q1⟩ := hg 1 (by omega)
  obtain ⟨a2, q2⟩ := hg 2 (by omega)
  obtain ⟨a3, q3⟩ := hg 3 (by omega)
  obtain ⟨a4, q4⟩ := hg 4 (by omega)
  obtain ⟨a5, q5⟩ := hg 5 (by omega)
  obtain ⟨a6, q6⟩ := hg 6 (by omega)
  exact ⟨a0, a1, a2, a3, a4, a5, a6, q0, q1, q2, q3, q4, q5, q6⟩

theorem Y.free {w W : World} {G n : Nat} {f : Nat → Int} (h : Y w W G n f) (j : Nat) : W.frozen? ⟨w.heap.size, j, none⟩ = false := by
  obtain ⟨cs, hc, hs⟩ := h.own
  unfold World.frozen?
  rw [hc]
  simp

theorem encB_opc (opc dpc si ni mp sls : Int) (z : Nat → Int) (n k : Nat) (hk : k < 4) : encB opc dpc si ni mp sls z n k = be opc k := by
  match k, hk with
  | 0, _ => simp [encB, upd, put]
  | 1, _ => simp [encB, upd, put]
  | 2, _ => simp [encB, upd, put]
  | 3, _ => simp [encB, upd, put]
theorem encB_dpc (opc dpc si ni mp sls : Int) (z : Nat → Int) (n k : Nat) (hk : k < 4) : encB opc dpc si ni mp sls z n (4 + k) = be dpc k := by
  match k, hk with
  | 0, _ => simp [encB, upd, put]
  | 1, _ => simp [encB, upd, put]
  | 2, _ => simp [encB, upd, put]
  | 3, _ => simp [encB, upd, put]
theorem encB_8 (opc dpc si ni mp sls : Int) (z : Nat → Int) (n : Nat) : encB opc dpc si ni mp sls z n 8 = si := by simp [encB, upd]
theorem encB_9 (opc dpc si ni mp sls : Int) (z : Nat → Int) (n : Nat) : encB opc dpc si ni mp sls z n 9 = ni := by simp [encB, upd]
theorem encB_10 (opc dpc si ni mp sls : Int) (z : Nat → Int) (n : Nat) : encB opc dpc si ni mp sls z n 10 = mp := by simp [encB, upd]
theorem encB_11 (opc dpc si ni mp sls : Int) (z : Nat → Int) (n : Nat) : encB opc dpc si ni mp sls z n 11 = sls := by simp [encB, upd]
theorem encB_data (opc dpc si ni mp sls : Int) (z : Nat → Int) (n j : Nat) (hj : j < n) : encB opc dpc si ni mp sls z n (12 + j) = z j := by
  unfold encB
  rw [if_pos (by omega), Nat.add_sub_cancel_left]

theorem Y.sy {w W : World} {G n : Nat} {opc dpc si ni mp sls : Int} {z : Nat → Int} (h : Y w W G n (encB opc dpc si ni mp sls z n)) : W.cell? ⟨G, 8, none⟩ = some (.int .u8 si) ∧ W.cell? ⟨G, 9, none⟩ = some (.int .u8 ni) ∧ W.cell? ⟨G, 10, none⟩ = some (.int .u8 mp) ∧ W.cell? ⟨G, 11, none⟩ = some (.int .u8 sls) ∧ Y w W G n (encB opc dpc si ni mp sls z n) := by
  have c8 := h.row.cell 8 (by omega)
  have c9 := h.row.cell 9 (by omega)
  have c10 := h.row.cell 10 (by omega)
  have c11 := h.row.cell 11 (by omega)
  rw [encB_8] at c8
  rw [encB_9] at c9
  rw [encB_10] at c10
  rw [encB_11] at c11
  exact ⟨c8, c9, c10, c11, h⟩

theorem callA {w W : World} {G n L : Nat} {opc dpc si ni mp sls : Int} {z : Nat → Int} (hL : L = 12 + n) (h0 : 0 ≤ opc) (h1 : opc < 4294967296) (h : Y w W G n (encB opc dpc si ni mp sls z n)) :
    Calls Ybaf.prog 8 #[.agg #[], .slice (some ⟨G, 0, none⟩) L L] W fun e W' => e = .returned (.int .u32 opc) ∧ Y w W' G n (encB opc dpc si ni mp sls z n) :=
  (uint32 G 0 L L (12 + n) opc _ W h0 h1 (by omega) (by omega) h.row (encB_opc _ _ _ _ _ _ _ _ 0 (by omega)) (encB_opc _ _ _ _ _ _ _ _ 1 (by omega)) (encB_opc _ _ _ _ _ _ _ _ 2 (by omega)) (encB_opc _ _ _ _ _ _ _ _ 3 (by omega))).mono
    fun _ _ ⟨he, hb⟩ => ⟨he, h.later hb⟩

theorem callB {w W : World} {G n M : Nat} {opc dpc si ni mp sls : Int} {z : Nat → Int} (hM : M = 8 + n) (h0 : 0 ≤ dpc) (h1 : dpc < 4294967296) (h : Y w W G n (encB opc dpc si ni mp sls z n)) :
    Calls Ybaf.prog 8 #[.agg #[], .slice (some ⟨G, 4, none⟩) M M] W fun e W' => e = .returned (.int .u32 dpc) ∧ Y w W' G n (encB opc dpc si ni mp sls z n) :=
  (uint32 G 4 M M (12 + n) dpc _ W h0 h1 (by omega) (by omega) h.row (encB_dpc _ _ _ _ _ _ _ _ 0 (by omega)) (encB_dpc _ _ _ _ _ _ _ _ 1 (by omega)) (encB_dpc _ _ _ _ _ _ _ _ 2 (by omega)) (encB_dpc _ _ _ _ _ _ _ _ 3 (by omega))).mono
    fun _ _ ⟨he, hb⟩ => ⟨he, h.later hb⟩

theorem size5 : ∀ w, (sizeOf (Ybaf.prog.elem 23)).run Ybaf.prog w = .ok 1 w := fun _ => by kernel_rfl

theorem slice_at (G L k m : Nat) (hm : m + k = L) :
    ∃ pz, (0 < m → pz = some ⟨G, k, none⟩) ∧ ∀ w, Sem.run Ybaf.prog (Instr.slice 23 (.slice (some ⟨G, 0, none⟩) L L) (some (.int .i64 (k : Int))) none none) w = .ok (.slice pz m m) w := by
  have hu : Ybaf.prog.underlying 23 = some (.slice (Ybaf.prog.elem 23)) := by kernel_rfl
  refine ⟨if L = k then some ⟨G, 0, none⟩ else some ⟨G, k, none⟩, fun h => if_neg (by omega), fun w => ?_⟩
  rw [run_slice_l w 23 _ _ _ hu .i64 k (by omega) (by omega), size5]
  have e : L - k = m := by omega
  simp only [Result.andThen, sliced, Int.toNat_natCast, e, Nat.mul_one]
  by_cases hq : L = k
  · have : m = 0 := by omega
    subst this
    simp [hq]
  · simp [hq]
    rw [Addr.add_lit, Nat.zero_add]

set_option maxHeartbeats 400000 in
set_option maxRecDepth 100000 in
theorem parse_L (opc dpc si ni mp sls : Int) (G n L M : Nat) (z : Nat → Int) (w : World) (h0 : 0 ≤ opc) (h1 : opc < 4294967296) (h2 : 0 ≤ dpc) (h3 : dpc < 4294967296) (hL' : L = 12 + n) (hM' : M = 8 + n) (hn : n ≤ 4096) (hr : Row w G (encB opc dpc si ni mp sls z n) (12 + n)) :
    Calls Ybaf.prog 4 #[.slice (some ⟨G, 0, none⟩) L L] w fun e w' => ∃ pz, e = .returned (.tuple #[.agg #[.int .u32 opc, .int .u32 dpc, .int .u8 si, .int .u8 ni, .int .u8 mp, .int .u8 sls, .slice pz n n], .nilIface]) ∧ (0 < n → pz = some ⟨G, 12, none⟩) ∧ Below w.heap.size w w' := by
  obtain ⟨p4, e4, s4'⟩ := slice_at G L 4 M (by omega)
  obtain ⟨p12, e12, s12'⟩ := slice_at G L 12 n (by omega)
  obtain rfl := e4 (by omega)
  have s4 : ∀ w, Sem.run Ybaf.prog (Instr.slice 23 (.slice (some ⟨G, 0, none⟩) L L) (some (.int .i64 4)) none none) w = .ok (.slice (some ⟨G, 4, none⟩) M M) w := s4'
  have s12 : ∀ w, Sem.run Ybaf.prog (Instr.slice 23 (.slice (some ⟨G, 0, none⟩) L L) (some (.int .i64 12)) none none) w = .ok (.slice p12 n n) w := s12'
  have E12 := hide e12
  clear e4 e12 s4' s12'
  have hG := hr.lt
  have hlt : ¬ ((L : Int) < 12) := by omega
  have hi8 : (8 : Int) < (L : Int) := by omega
  have hi9 : (9 : Int) < (L : Int) := by omega
  have hi10 : (10 : Int) < (L : Int) := by omega
  have hi11 : (11 : Int) < (L : Int) := by omega
  have hL := hide hL'
  have hM := hide hM'
  clear hL' hM'
  go_enter Ybaf.func4, Ybaf.ntmps4
  go_wp2_with fail
  generalize hW0 : w.alloc (.cells #[.int .u32 0, .int .u32 0, .int .u8 0, .int .u8 0, .int .u8 0, .int .u8 0, .slice none 0 0] 26) = W0
  have y0 : Y w W0 G n (encB opc dpc si ni mp sls z n) := by
    subst hW0
    exact ⟨hr.alloc _, ⟨_, block_new _ _, rfl⟩, (Below.refl _ _).alloc (Nat.le_refl _) _⟩
  clear hW0
  go_region_held3 (fun W => W.cell? ⟨G, 8, none⟩ = some (.int .u8 si) ∧ W.cell? ⟨G, 9, none⟩ = some (.int .u8 ni) ∧ W.cell? ⟨G, 10, none⟩ = some (.int .u8 mp) ∧ W.cell? ⟨G, 11, none⟩ = some (.int .u8 sls) ∧ Y w W G n (encB opc dpc si ni mp sls z n))
    (first | with_reducible exact Y.sy hy | with_reducible exact Y.sy (((((((hy.set hG 0 _).set hG 1 _).set hG 2 _).set hG 3 _).set hG 4 _).set hG 5 _).set hG 6 _) | with_reducible exact Y.sy y0.drew)
    (first
      | (go_at_call_of 8 L; refine (callA (w := w) (n := n) (opc := opc) (dpc := dpc) (si := si) (ni := ni) (mp := mp) (sls := sls) (z := z) hL.out h0 h1 ?_).mono ?_; (first | exact hy | exact y0.drew); rintro e W2 ⟨rfl, hy⟩; have HC := hy.cells; have f0 := hy.free 0; have f1 := hy.free 1; have f2 := hy.free 2; have f3 := hy.free 3; have f4 := hy.free 4; have f5 := hy.free 5; have f6 := hy.free 6; obtain ⟨a0, a1, a2, a3, a4, a5, a6, q0, q1, q2, q3, q4, q5, q6⟩ := HC)
      | (go_at_call_of 8 M; refine (callB (w := w) (n := n) (opc := opc) (dpc := dpc) (si := si) (ni := ni) (mp := mp) (sls := sls) (z := z) hM.out h2 h3 ?_).mono ?_; (first | exact hy | exact y0.drew); rintro e W2 ⟨rfl, hy⟩; have HC := hy.cells; have f0 := hy.free 0; have f1 := hy.free 1; have f2 := hy.free 2; have f3 := hy.free 3; have f4 := hy.free 4; have f5 := hy.free 5; have f6 := hy.free 6; obtain ⟨a0, a1, a2, a3, a4, a5, a6, q0, q1, q2, q3, q4, q5, q6⟩ := HC))
  go_wp2_with fail
  have hyf := (((((((hy.set hG 0 (.int .u32 opc)).set hG 1 (.int .u32 dpc)).set hG 2 (.int .u8 si)).set hG 3 (.int .u8 ni)).set hG 4 (.int .u8 mp)).set hG 5 (.int .u8 sls)).set hG 6 (.slice p12 n n)).bel
  refine bodyPost_ret (v := .tuple #[.agg #[.int .u32 opc, .int .u32 dpc, .int .u8 si, .int .u8 ni, .int .u8 mp, .int .u8 sls, .slice p12 n n], .nilIface]) (by simp [results, Ybaf.results4, go_sem, q0, q1, q2, q3, q4, q5, q6]) rfl ⟨p12, rfl, E12.out, hyf⟩

theorem parse (opc dpc si ni mp sls : Int) (G n : Nat) (z : Nat → Int) (w : World) (h0 : 0 ≤ opc) (h1 : opc < 4294967296) (h2 : 0 ≤ dpc) (h3 : dpc < 4294967296) (hn : n ≤ 4096) (hr : Row w G (encB opc dpc si ni mp sls z n) (12 + n)) :
    Calls Ybaf.prog 4 #[.slice (some ⟨G, 0, none⟩) (12 + n) (12 + n)] w fun e w' => ∃ pz, e = .returned (.tuple #[.agg #[.int .u32 opc, .int .u32 dpc, .int .u8 si, .int .u8 ni, .int .u8 mp, .int .u8 sls, .slice pz n n], .nilIface]) ∧ (0 < n → pz = some ⟨G, 12, none⟩) ∧ Below w.heap.size w w' :=
  parse_L opc dpc si ni mp sls G n (12 + n) (8 + n) z w h0 h1 h2 h3 rfl rfl hn hr

end Ly
end Go.Proofs.YbulkaykoFmt
