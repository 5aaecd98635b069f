import Derived.Test.YbulkaylcSwD
namespace Go.Proofs.Ybulkaylc
open Go.RowKit
set_option linter.unusedVariables false
namespace Sw

set_option maxHeartbeats 400000 in
theorem law_zero (a0 : Option Addr) (cap : Nat) (a1 : Int) (w : World) :
    Calls Yba.prog 5 #[.slice a0 0 cap, .int .u16 a1] w fun e w' => e = .returned (.bool true) ∧ Below w.heap.size w w' := by
  go_enter Yba.func5, Yba.ntmps5
  go_wp2
  go_ret
  exact ⟨rfl, Below.refl _ _⟩

set_option maxHeartbeats 400000 in
theorem law_long (a0 : Option Addr) (len cap : Nat) (a1 : Int) (w : World) (hl : 1024 < len) (hm : len ≤ maxLen) :
    Calls Yba.prog 5 #[.slice a0 len cap, .int .u16 a1] w fun e w' => e = .returned (.bool true) ∧ Below w.heap.size w w' := by
  unfold maxLen at hm
  have h1 : ((len : Int) == 0) = false := by simp; omega
  have h2 : (1024 : Int) < (len : Int) := by omega
  go_enter Yba.func5, Yba.ntmps5
  go_wp2
  go_ret
  exact ⟨rfl, Below.refl _ _⟩

theorem fill_start (w : World) (m : Nat) (tg : Nat → Int) (o1 o2 : Obj) (z1 z2 : Array Value) (h1 : o1 = .cells (madeCells z1 ((m + 1) * 11)) 90) (h2 : o2 = .cells (madeCells z2 ((m + 1) * 6)) 84) : Fill w ((w.alloc o1).alloc o2) m 0 tg := by
  have b1 : ((w.alloc o1).alloc o2).heap[w.heap.size]? = some o1 := by rw [Below.heap_alloc _ _ _ (by simp)]; exact block_new _ _
  have b2 : ((w.alloc o1).alloc o2).heap[w.heap.size + 1]? = some o2 := by
    have := block_new (w.alloc o1) o2
    rwa [show (w.alloc o1).heap.size = w.heap.size + 1 by simp] at this
  subst h1 h2
  have no : ∀ {p : Nat → Prop} (i : Nat), i < 0 → p i := fun i hi => absurd hi (Nat.not_lt_zero _)
  exact ⟨by simp, ((Below.refl _ _).alloc (Nat.le_refl _) _).alloc (by simp) _, there_made b1, free_made b1, there_made b2, free_made b2, no, no, no, no, no, no, no, no, no, no, no⟩

/-- 'copy(dst, src)' of elements of 'size' cells, both of k elements. -/
theorem run_copy_size (w : World) (dT sT ty elem : TypeId) (size b o k dCap : Nat) (a : Addr) (sCap : Nat) (cs : List Value)
    (hu : Yba.prog.underlying dT = some (.slice elem)) (hs : (Yba.prog.info? elem).map (·.size) = some size) (hn : cs.length = k * size)
    (hsrc : ∀ j v, cs[j]? = some v → w.cell? (a.add j) = some v) (hc : ∀ j, j < cs.length → (w.cell? ⟨b, o + j, none⟩).isSome = true) (hf : ∀ j, j < cs.length → w.frozen? ⟨b, o + j, none⟩ = false) (h1 : ∀ v ∈ cs, v.oneCell' = true) :
    (Builtin.copy_ #[dT, sT] ty #[.slice (some ⟨b, o, none⟩) k dCap, .slice (some a) k sCap]).run Yba.prog w = .ok (goInt k) (w.setCells b o cs) := by
  have hl := run_loadCells_list (P := Yba.prog) w a cs hsrc
  have hst := run_storeCells_cells (P := Yba.prog) b o cs 0 w (by simpa using hc) (by simpa using hf) h1
  cases hq : Yba.prog.info? elem with
  | none => simp [hq] at hs
  | some i =>
    have hi : i.size = size := by simpa [hq] using hs
    simp [Builtin.copy_, run_underlying hu, Builtin.lenOf, Builtin.firstCells, sizeOf, typeInfo, hq, hi, ← hn, hl, hst]

theorem size_setCells (g : Nat) : ∀ (vs : List Value) (o : Nat) (w : World), (w.setCells g o vs).heap.size = w.heap.size
  | [], _, _ => rfl
  | v :: r, o, w => by rw [World.setCells, size_setCells g r]; simp [World.setCell]
theorem tch_setCells {S : Nat → Prop} {g : Nat} (hg : S g) : ∀ (vs : List Value) (o : Nat) (w : World), Tch S w (w.setCells g o vs)
  | [], _, w => Tch.refl _ _
  | v :: r, o, w => ((Tch.refl S w).setCell (p := ⟨g, o, none⟩) hg v).trans (tch_setCells hg r (o + 1) _)

/-- The old rows, laid anew in block Q. -/
theorem copy_rows (W : World) (H Q n hc qc : Nat) (hQ : H ≠ Q) (tH : There W H (n * 6)) (one : ∀ j v, j < n * 6 → W.cell? ⟨H, j, none⟩ = some v → v.oneCell' = true) (tQ : There W Q (n * 6)) (fQ : Free W Q) :
    ∃ W', (Builtin.copy_ #[82, 82] 3 #[.slice (some ⟨Q, 0, none⟩) n qc, .slice (some ⟨H, 0, none⟩) n hc]).run Yba.prog W = .ok (.int .i64 n) W' ∧ Tch (fun k => k = Q) W W' ∧ W'.heap.size = W.heap.size ∧ ∀ j, j < n * 6 → W'.cell? ⟨Q, j, none⟩ = W.cell? ⟨H, j, none⟩ := by
  have hlen : ((List.range (n * 6)).map (fun j => (W.cell? ⟨H, j, none⟩).getD undef)).length = n * 6 := by simp
  have hget : ∀ j v, ((List.range (n * 6)).map (fun j => (W.cell? ⟨H, j, none⟩).getD undef))[j]? = some v → j < n * 6 ∧ W.cell? ⟨H, j, none⟩ = some v := fun j v hv => by
    have hj : j < n * 6 := by have := (List.getElem?_eq_some_iff.1 hv).1; rwa [hlen] at this
    obtain ⟨x, hx⟩ := tH j hj
    rw [List.getElem?_map, List.getElem?_range hj] at hv
    simp [hx] at hv
    exact ⟨hj, by rw [hx, hv]⟩
  refine ⟨W.setCells Q 0 ((List.range (n * 6)).map (fun j => (W.cell? ⟨H, j, none⟩).getD undef)), ?_, tch_setCells (S := fun k => k = Q) rfl _ _ _, size_setCells _ _ _ _, fun j hj => ?_⟩
  · exact run_copy_size W 82 82 3 84 6 Q 0 n qc ⟨H, 0, none⟩ hc _ Yba.underlying82 (by kernel_rfl) hlen (fun j v hv => by rw [Addr.add_lit, Nat.zero_add]; exact (hget j v hv).2)
      (fun j hj => by rw [hlen] at hj; obtain ⟨x, hx⟩ := tQ j hj; rw [Nat.zero_add, hx]; rfl) (fun j _ => fQ _)
      (fun v hv => by obtain ⟨j, hj, rfl⟩ := List.mem_map.1 hv; have hj' := List.mem_range.1 hj; obtain ⟨x, hx⟩ := tH j hj'; rw [hx]; exact one j x hj' hx)
  · obtain ⟨x, hx⟩ := tH j hj
    have hin := World.cell?_setCells_in Q ((List.range (n * 6)).map (fun j => (W.cell? ⟨H, j, none⟩).getD undef)) 0 W (fun i hi => by rw [hlen] at hi; obtain ⟨x, hx⟩ := tQ i hi; rw [Nat.zero_add, hx]; rfl) j (by rw [hlen]; exact hj)
    rw [Nat.zero_add] at hin
    rw [hin]
    simp [hx]

theorem Fill.one {w wr : World} {m : Nat} {tg : Nat → Int} (h : Fill w wr m (m + 1) tg) : ∀ j v, j < (m + 1) * 6 → wr.cell? ⟨w.heap.size + 1, j, none⟩ = some v → v.oneCell' = true := fun j v hj hv => by
  have hi : j / 6 < m + 1 := by omega
  have hd := Nat.div_add_mod j 6
  have hc : j % 6 < 6 := Nat.mod_lt _ (by omega)
  have e : j = j / 6 * 6 + j % 6 := by omega
  rw [e] at hv
  generalize j % 6 = c at *
  generalize j / 6 = i at *
  have hfin : ∀ x : Value, wr.cell? ⟨w.heap.size + 1, i * 6 + c, none⟩ = some x → x.oneCell' = true → v.oneCell' = true := fun x hx h1 => by rw [hx] at hv; cases hv; exact h1
  match c, hc with
  | 0, _ => exact hfin _ (h.r0 i hi) rfl
  | 1, _ => exact hfin _ (h.r1 i hi) rfl
  | 2, _ => exact hfin _ (h.r2 i hi) rfl
  | 3, _ => exact hfin _ (h.r3 i hi) rfl
  | 4, _ => exact hfin _ (h.r4 i hi) rfl
  | 5, _ => exact hfin _ (h.r5 i hi) rfl

theorem five (wr : World) (n : Nat) (hn : wr.heap.size = n) (o3 o4 o5 o6 o7 : Obj) :
    (((((wr.alloc o3).alloc o4).alloc o5).alloc o6).alloc o7).heap.size = n + 5 ∧ (∀ k, k < n → (((((wr.alloc o3).alloc o4).alloc o5).alloc o6).alloc o7).heap[k]? = wr.heap[k]?) ∧
    (((((wr.alloc o3).alloc o4).alloc o5).alloc o6).alloc o7).heap[n]? = some o3 ∧ (((((wr.alloc o3).alloc o4).alloc o5).alloc o6).alloc o7).heap[n + 2]? = some o5 ∧
    (((((wr.alloc o3).alloc o4).alloc o5).alloc o6).alloc o7).heap[n + 3]? = some o6 ∧ (((((wr.alloc o3).alloc o4).alloc o5).alloc o6).alloc o7).heap[n + 4]? = some o7 := by
  subst hn
  have s1 : (wr.alloc o3).heap.size = wr.heap.size + 1 := by simp
  have s2 : ((wr.alloc o3).alloc o4).heap.size = wr.heap.size + 2 := by simp
  have s3 : (((wr.alloc o3).alloc o4).alloc o5).heap.size = wr.heap.size + 3 := by simp
  have s4 : ((((wr.alloc o3).alloc o4).alloc o5).alloc o6).heap.size = wr.heap.size + 4 := by simp
  refine ⟨by simp, fun k hk => ?_, ?_, ?_, ?_, ?_⟩
  · rw [Below.heap_alloc _ _ _ (by omega), Below.heap_alloc _ _ _ (by omega), Below.heap_alloc _ _ _ (by omega), Below.heap_alloc _ _ _ (by omega), Below.heap_alloc _ _ _ hk]
  · rw [Below.heap_alloc _ _ _ (by omega), Below.heap_alloc _ _ _ (by omega), Below.heap_alloc _ _ _ (by omega), Below.heap_alloc _ _ _ (by omega)]
    exact block_new _ _
  · rw [Below.heap_alloc _ _ _ (by omega), Below.heap_alloc _ _ _ (by omega)]
    have := block_new ((wr.alloc o3).alloc o4) o5
    rwa [s2] at this
  · rw [Below.heap_alloc _ _ _ (by omega)]
    have := block_new (((wr.alloc o3).alloc o4).alloc o5) o6
    rwa [s3] at this
  · have := block_new ((((wr.alloc o3).alloc o4).alloc o5).alloc o6) o7
    rwa [s4] at this
theorem cell_block {w : World} {g : Nat} {cs : Array Value} {t : TypeId} (h : w.heap[g]? = some (.cells cs t)) (i : Nat) : w.cell? ⟨g, i, none⟩ = cs[i]? := by simp [World.cell?, h]

/-- The blocks of this law. -/
def blk (N Q : Nat) : Blk := { L := Q + 5, WI := Q + 4, E := Q + 1, HH := Q + 3, T := N, H := N + 1, U := fun i => N + 2 + i }

theorem blk_apart (N Q n : Nat) (hQ : N + 2 + n = Q) : Apart (blk N Q) n := by
  constructor
  case inj => intro i j _ _ e; have : N + 2 + i = N + 2 + j := e; omega
  all_goals simp only [blk]
  all_goals first | omega | (intro i hi; omega)

/-- The world in which 'removeWaitingHolder' is called. -/
def atRem (W3 : World) (N Q m : Nat) : World :=
  ((((W3.alloc (.cells #[.int .i32 1] 21)).alloc (.cells #[.int .i32 (-1), .int .i32 0] 21)).alloc (.cells #[.slice none 0 0, .slice (some ⟨N + 1, 0, none⟩) (m + 1) (m + 1)] 82)).alloc
    (.cells #[.slice (some ⟨Q + 1, 0, none⟩) 1 1, .slice (some ⟨Q + 1 + 1, 0, none⟩) 2 2, .slice (some ⟨Q + 1 + 1 + 1, 0, none⟩) 2 2, .slice none 0 0, .slice none 0 0, .slice none 0 0, .slice none 0 0, .slice none 0 0, .slice none 0 0, .pointer none, .int .i32 0, .slice none 0 0] 59)).alloc
    (.cells #[.pointer none, .int .u8 0, .bool false, .bool false, .bool false, .bool false, .bool false, .bool false, .nilIface, .slice none 0 0, .slice (some ⟨N, 0, none⟩) (m + 1) (m + 1), .nilFunc, .slice none 0 0, .pointer none, .slice none 0 0, .slice none 0 0, .bool false, .pointer (some ⟨Q + 1 + 1 + 1 + 1, 0, none⟩), .slice none 0 0, .slice none 0 0, .slice none 0 0, .slice none 0 0, .int .i64 0, .int .i64 0, .slice none 0 0, .slice none 0 0, .slice none 0 0] 40)

/-- What is known of it. -/
structure Pre (w W : World) (Q m : Nat) (tg : Nat → Int) : Prop where
  size : W.heap.size = Q + 6
  bel : Below w.heap.size w W
  env : Env W (blk w.heap.size Q) (m + 1) (fun _ => 3) (.slice none 0 0) 0 1
  rws : Rws W (blk w.heap.size Q) (m + 1) 0 (fun i => i) tg (fun _ => 3) (fun i => i)
  cHH : W.cell? ⟨Q + 3, 1, none⟩ = some (.slice (some ⟨w.heap.size + 1, 0, none⟩) (m + 1) (m + 1))
  fHH : W.frozen? ⟨Q + 3, 1, none⟩ = false
  old : ∀ j, j < (m + 1) * 6 → W.cell? ⟨Q, j, none⟩ = W.cell? ⟨w.heap.size + 1, j, none⟩

theorem Fill.pre {w wr W3 : World} {m Q : Nat} {tg : Nat → Int} {o : Obj} (h : Fill w wr m (m + 1) tg) (hQ : w.heap.size + 2 + (m + 1) = Q) (hsz : wr.heap.size = Q) (hz3 : W3.heap.size = Q + 1) (t3 : Tch (fun k => k = Q) (wr.alloc o) W3)
    (hro : ∀ j, j < (m + 1) * 6 → W3.cell? ⟨Q, j, none⟩ = (wr.alloc o).cell? ⟨w.heap.size + 1, j, none⟩) : Pre w (atRem W3 w.heap.size Q m) Q m tg := by
  obtain ⟨sz, hold, bE, bHH, bWI, bL⟩ := five W3 (Q + 1) hz3 (.cells #[.int .i32 1] 21) (.cells #[.int .i32 (-1), .int .i32 0] 21) (.cells #[.slice none 0 0, .slice (some ⟨w.heap.size + 1, 0, none⟩) (m + 1) (m + 1)] 82)
    (.cells #[.slice (some ⟨Q + 1, 0, none⟩) 1 1, .slice (some ⟨Q + 1 + 1, 0, none⟩) 2 2, .slice (some ⟨Q + 1 + 1 + 1, 0, none⟩) 2 2, .slice none 0 0, .slice none 0 0, .slice none 0 0, .slice none 0 0, .slice none 0 0, .slice none 0 0, .pointer none, .int .i32 0, .slice none 0 0] 59)
    (.cells #[.pointer none, .int .u8 0, .bool false, .bool false, .bool false, .bool false, .bool false, .bool false, .nilIface, .slice none 0 0, .slice (some ⟨w.heap.size, 0, none⟩) (m + 1) (m + 1), .nilFunc, .slice none 0 0, .pointer none, .slice none 0 0, .slice none 0 0, .bool false, .pointer (some ⟨Q + 1 + 1 + 1 + 1, 0, none⟩), .slice none 0 0, .slice none 0 0, .slice none 0 0, .slice none 0 0, .int .i64 0, .int .i64 0, .slice none 0 0, .slice none 0 0, .slice none 0 0] 40)
  change (atRem W3 w.heap.size Q m).heap.size = _ at sz
  change ∀ k, k < Q + 1 → (atRem W3 w.heap.size Q m).heap[k]? = W3.heap[k]? at hold
  change (atRem W3 w.heap.size Q m).heap[Q + 1]? = _ at bE
  change (atRem W3 w.heap.size Q m).heap[Q + 1 + 2]? = _ at bHH
  change (atRem W3 w.heap.size Q m).heap[Q + 1 + 3]? = _ at bWI
  change (atRem W3 w.heap.size Q m).heap[Q + 1 + 4]? = _ at bL
  have ho1 : (atRem W3 w.heap.size Q m).os = W3.os := rfl
  have ho2 : (atRem W3 w.heap.size Q m).tape = W3.tape := rfl
  have ho3 : (atRem W3 w.heap.size Q m).output = W3.output := rfl
  generalize atRem W3 w.heap.size Q m = W at *
  -- a block below Q is as wr has it
  have hlow : ∀ k, k < Q → W.heap[k]? = wr.heap[k]? := fun k hk => by
    rw [hold k (by omega), t3.block k (by simp; omega) (by omega), Below.heap_alloc _ _ _ (by omega)]
  have hcl : ∀ g o', g < Q → W.cell? ⟨g, o', none⟩ = wr.cell? ⟨g, o', none⟩ := fun g o' hg => World.cell?_of_block (hlow g hg)
  have hfl : ∀ g o', g < Q → W.frozen? ⟨g, o', none⟩ = wr.frozen? ⟨g, o', none⟩ := fun g o' hg => World.frozen?_of_block (hlow g hg)
  refine ⟨sz, ?_, ?_, ?_, cell_block bHH 1, free_made bHH 1, fun j hj => ?_⟩
  · exact ⟨(ho1.trans t3.os).trans h.bel.os, (ho2.trans t3.tape).trans h.bel.tape, (ho3.trans t3.output).trans h.bel.output, by rw [sz]; omega, fun k hk => (hlow k (by omega)).trans (h.bel.block k hk)⟩
  · exact ⟨cell_block bL 10, cell_block bL 17, cell_block bWI 0, cell_block bWI 2, cell_block bWI 3, cell_block bE 0,
      fun i hi => (hcl _ _ (by show w.heap.size < Q; omega)).trans (h.cT i hi), fun i hi => (hcl _ _ (by show w.heap.size + 2 + i < Q; omega)).trans (h.u0 i hi), fun i hi => (hcl _ _ (by show w.heap.size + 2 + i < Q; omega)).trans (h.u2 i hi),
      fun i hi => (hfl _ _ (by show w.heap.size + 2 + i < Q; omega)).trans (h.fU i hi 6), fun jj => (hfl _ _ (by show w.heap.size + 1 < Q; omega)).trans (h.fH jj)⟩
  · have hH : w.heap.size + 1 < Q := by omega
    exact ⟨fun i hi => (hcl _ _ hH).trans (h.r0 i hi), fun i hi => (hcl _ _ hH).trans (h.r1 i hi), fun i hi => (hcl _ _ hH).trans (h.r2 i hi), fun i hi => (hcl _ _ hH).trans (h.r3 i hi), fun i hi => (hcl _ _ hH).trans (h.r4 i hi), fun i hi => (hcl _ _ hH).trans (h.r5 i hi),
      fun i hi => (hcl _ _ (by show w.heap.size + 2 + i < Q; omega)).trans (h.u6 i hi)⟩
  · rw [World.cell?_of_block (w := W3) (hold Q (by omega)), hro j hj, hcl _ _ (by omega : w.heap.size + 1 < Q), World.cell?_of_block (w := wr) (Below.heap_alloc _ _ _ (by show w.heap.size + 1 < wr.heap.size; omega))]

end Sw
end Go.Proofs.Ybulkaylc
