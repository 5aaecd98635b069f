import Derived.Test.YbulkaylcGrC
namespace Go.Proofs.Ybulkaylc
open Go.RowKit
set_option linter.unusedVariables false
namespace Gr
open Sw

theorem sixA (wr : World) (n : Nat) (hn : wr.heap.size = n) (o1 o2 o3 o4 o5 o6 : Obj) :
    ((((((wr.alloc o1).alloc o2).alloc o3).alloc o4).alloc o5).alloc o6).heap.size = n + 6 ∧ (∀ k, k < n → ((((((wr.alloc o1).alloc o2).alloc o3).alloc o4).alloc o5).alloc o6).heap[k]? = wr.heap[k]?) ∧
    ((((((wr.alloc o1).alloc o2).alloc o3).alloc o4).alloc o5).alloc o6).heap[n]? = some o1 ∧ ((((((wr.alloc o1).alloc o2).alloc o3).alloc o4).alloc o5).alloc o6).heap[n + 2]? = some o3 ∧
    ((((((wr.alloc o1).alloc o2).alloc o3).alloc o4).alloc o5).alloc o6).heap[n + 3]? = some o4 ∧ ((((((wr.alloc o1).alloc o2).alloc o3).alloc o4).alloc o5).alloc o6).heap[n + 4]? = some o5 ∧ ((((((wr.alloc o1).alloc o2).alloc o3).alloc o4).alloc o5).alloc o6).heap[n + 5]? = some o6 := by
  have h1 : (wr.alloc o1).heap.size = n + 1 := by simp [hn]
  obtain ⟨a, bb, c, d, e, f⟩ := five (wr.alloc o1) (n + 1) h1 o2 o3 o4 o5 o6
  have hs3 : (((wr.alloc o1).alloc o2)).heap.size = n + 2 := by simp [hn]
  refine ⟨by rw [a], fun k hk => ?_, ?_, ?_, d, e, f⟩
  · rw [bb k (by omega), Below.heap_alloc _ _ _ (by omega)]
  · rw [bb n (by omega), ← hn]; exact block_new _ _
  · rw [Below.heap_alloc _ _ _ (by simp; omega), Below.heap_alloc _ _ _ (by simp; omega), Below.heap_alloc _ _ _ (by simp; omega)]
    have := block_new ((wr.alloc o1).alloc o2) o3
    rwa [hs3] at this

/-- The blocks of this law. -/
def blkG (N TB Q : Nat) : Blk := { L := Q + 6, WI := Q + 5, E := Q + 1, HH := Q + 3, T := TB, H := N + 1, U := fun i => TB + 1 + i }

theorem blkG_apart (N TB Q n : Nat) (h1 : N + 2 < TB) (hQ : TB + 1 + n = Q) : Apart (blkG N TB Q) n := by
  constructor
  case inj => intro i j _ _ e; have : TB + 1 + i = TB + 1 + j := e; omega
  all_goals simp only [blkG]
  all_goals first | omega | (intro i hi; omega)

theorem blkG_en (N TB Q n : Nat) (h1 : N + 2 < TB) (hQ : TB + 1 + n = Q) : EnApart (blkG N TB Q) n (Q + 4) := by
  constructor
  all_goals simp only [blkG]
  all_goals first | omega | (intro i hi; omega)

/-- The world in which 'removeWaitingHolder' is called. -/
def atG (W6 : World) (N TB Q m : Nat) (E : Nat → Nat) : World :=
  (((((W6.alloc (.cells #[.int .i32 1] 21)).alloc (.cells #[.int .i32 (-1), .int .i32 0] 21)).alloc (.cells #[.slice none 0 0, .slice (some ⟨N + 1, 0, none⟩) (m + 1) (m + 1)] 82)).alloc
    (.cells #[.int .i32 0, .int .i32 0, .int .i32 0, .int .i32 0, .int .i32 0, .int .i32 (E 0), .int .i32 (E 1), .int .i32 (E 2), .int .i32 (E 3), .int .i32 (E 4)] 94)).alloc
    (.cells #[.slice (some ⟨Q + 1, 0, none⟩) 1 1, .slice (some ⟨Q + 1 + 1, 0, none⟩) 2 2, .slice (some ⟨Q + 1 + 1 + 1, 0, none⟩) 2 2, .slice (some ⟨Q + 1 + 1 + 1 + 1, 0, none⟩) 2 2, .slice none 0 0, .slice none 0 0, .slice none 0 0, .slice none 0 0, .slice none 0 0, .pointer none, .int .i32 0, .slice none 0 0] 59)).alloc
    (.cells #[.pointer none, .int .u8 0, .bool false, .bool false, .bool false, .bool false, .bool false, .bool false, .nilIface, .slice none 0 0, .slice (some ⟨TB, 0, none⟩) (m + 1) (m + 1), .nilFunc, .slice none 0 0, .pointer none, .slice none 0 0, .slice none 0 0, .bool false, .pointer (some ⟨Q + 1 + 1 + 1 + 1 + 1, 0, none⟩), .slice none 0 0, .slice none 0 0, .slice none 0 0, .slice none 0 0, .int .i64 0, .int .i64 0, .slice none 0 0, .slice none 0 0, .slice none 0 0] 40)

/-- What is known of it. -/
structure PreG (w W : World) (TB Q m : Nat) (g tx pos E : Nat → Nat) : Prop where
  size : W.heap.size = Q + 7
  bel : Below w.heap.size w W
  env : Env W (blkG w.heap.size TB Q) (m + 1) (fun t => ((g t : Nat) : Int) + 1) (.slice (some ⟨Q + 4, 0, none⟩) 2 2) 0 1
  rws : RowsG W (blkG w.heap.size TB Q) (m + 1) g tx pos
  eb : EnB W (Q + 4) E
  cHH : W.cell? ⟨Q + 3, 1, none⟩ = some (.slice (some ⟨w.heap.size + 1, 0, none⟩) (m + 1) (m + 1))
  fHH : W.frozen? ⟨Q + 3, 1, none⟩ = false
  old : ∀ q, q < 5 → W.cell? ⟨Q, q, none⟩ = some (.int .i32 (E q))

set_option maxHeartbeats 800000 in
theorem preG {w WF wr W6 : World} {TB Q m : Nat} {g tx pos E : Nat → Nat} (fw : FilW w WF (m + 1) (m + 1) g tx pos E) (ft : FT WF wr (m + 1) (m + 1) g pos) (hTB : WF.heap.size = TB) (hQ : TB + 1 + (m + 1) = Q)
    (hW6 : wr.alloc (.cells #[.int .i32 (E 0), .int .i32 (E 1), .int .i32 (E 2), .int .i32 (E 3), .int .i32 (E 4)] 94) = W6) : PreG w (atG W6 w.heap.size TB Q m E) TB Q m g tx pos E := by
  have hzf := fw.size
  have hzr := ft.size
  rw [hTB] at hzf hzr
  rw [hQ] at hzr
  have hz6 : W6.heap.size = Q + 1 := by rw [← hW6]; simp [hzr]
  obtain ⟨sz, hold, bE, bHH, bEN, bWI, bL⟩ := sixA W6 (Q + 1) hz6 (.cells #[.int .i32 1] 21) (.cells #[.int .i32 (-1), .int .i32 0] 21) (.cells #[.slice none 0 0, .slice (some ⟨w.heap.size + 1, 0, none⟩) (m + 1) (m + 1)] 82)
    (.cells #[.int .i32 0, .int .i32 0, .int .i32 0, .int .i32 0, .int .i32 0, .int .i32 (E 0), .int .i32 (E 1), .int .i32 (E 2), .int .i32 (E 3), .int .i32 (E 4)] 94)
    (.cells #[.slice (some ⟨Q + 1, 0, none⟩) 1 1, .slice (some ⟨Q + 1 + 1, 0, none⟩) 2 2, .slice (some ⟨Q + 1 + 1 + 1, 0, none⟩) 2 2, .slice (some ⟨Q + 1 + 1 + 1 + 1, 0, none⟩) 2 2, .slice none 0 0, .slice none 0 0, .slice none 0 0, .slice none 0 0, .slice none 0 0, .pointer none, .int .i32 0, .slice none 0 0] 59)
    (.cells #[.pointer none, .int .u8 0, .bool false, .bool false, .bool false, .bool false, .bool false, .bool false, .nilIface, .slice none 0 0, .slice (some ⟨TB, 0, none⟩) (m + 1) (m + 1), .nilFunc, .slice none 0 0, .pointer none, .slice none 0 0, .slice none 0 0, .bool false, .pointer (some ⟨Q + 1 + 1 + 1 + 1 + 1, 0, none⟩), .slice none 0 0, .slice none 0 0, .slice none 0 0, .slice none 0 0, .int .i64 0, .int .i64 0, .slice none 0 0, .slice none 0 0, .slice none 0 0] 40)
  change (atG W6 w.heap.size TB Q m E).heap.size = _ at sz
  change ∀ k, k < Q + 1 → (atG W6 w.heap.size TB Q m E).heap[k]? = W6.heap[k]? at hold
  change (atG W6 w.heap.size TB Q m E).heap[Q + 1]? = _ at bE
  change (atG W6 w.heap.size TB Q m E).heap[Q + 1 + 2]? = _ at bHH
  change (atG W6 w.heap.size TB Q m E).heap[Q + 1 + 3]? = _ at bEN
  change (atG W6 w.heap.size TB Q m E).heap[Q + 1 + 4]? = _ at bWI
  change (atG W6 w.heap.size TB Q m E).heap[Q + 1 + 5]? = _ at bL
  have ho1 : (atG W6 w.heap.size TB Q m E).os = W6.os := rfl
  have ho2 : (atG W6 w.heap.size TB Q m E).tape = W6.tape := rfl
  have ho3 : (atG W6 w.heap.size TB Q m E).output = W6.output := rfl
  generalize atG W6 w.heap.size TB Q m E = W at *
  have t6 : Tch (fun _ => False) wr W6 := by rw [← hW6]; exact (Tch.refl _ wr).alloc _
  have hlow : ∀ k, k < Q → W.heap[k]? = wr.heap[k]? := fun k hk => by
    rw [hold k (by omega), t6.block k (by omega) (fun e => e)]
  have hlow2 : ∀ k, k < TB → W.heap[k]? = WF.heap[k]? := fun k hk => (hlow k (by omega)).trans (ft.bel.block k (by omega))
  have bQ : W.heap[Q]? = some (.cells #[.int .i32 (E 0), .int .i32 (E 1), .int .i32 (E 2), .int .i32 (E 3), .int .i32 (E 4)] 94) := by
    rw [hold Q (by omega), ← hW6, ← hzr]; exact block_new _ _
  have hcl : ∀ {gg o' v}, gg < Q → wr.cell? ⟨gg, o', none⟩ = some v → W.cell? ⟨gg, o', none⟩ = some v := fun {gg o' v} hg hv => (World.cell?_of_block (hlow gg hg)).trans hv
  have hcf : ∀ {gg o' v}, gg < TB → WF.cell? ⟨gg, o', none⟩ = some v → W.cell? ⟨gg, o', none⟩ = some v := fun {gg o' v} hg hv => (World.cell?_of_block (hlow2 gg hg)).trans hv
  subst hTB
  refine ⟨sz, ?_, ?_, ?_, ?_, cell_block bHH 1, free_made bHH 1, fun q hq => ?_⟩
  · exact ⟨((ho1.trans t6.os).trans ft.bel.os).trans fw.bel.os, ((ho2.trans t6.tape).trans ft.bel.tape).trans fw.bel.tape, ((ho3.trans t6.output).trans ft.bel.output).trans fw.bel.output, by rw [sz]; omega, fun k hk => (hlow2 k (by omega)).trans (fw.bel.block k hk)⟩
  · exact ⟨cell_block bL 10, cell_block bL 17, cell_block bWI 0, cell_block bWI 2, cell_block bWI 3, cell_block bE 0,
      fun i hi => hcl (by show WF.heap.size < Q; omega) (ft.cT i hi), fun i hi => hcl (by show WF.heap.size + 1 + i < Q; omega) (ft.u0 i hi), fun i hi => hcl (by show WF.heap.size + 1 + i < Q; omega) (ft.u2 i hi),
      fun i hi => (World.frozen?_of_block (a := ⟨WF.heap.size + 1 + i, 6, none⟩) (hlow (WF.heap.size + 1 + i) (by omega))).trans (ft.fU i hi 6), fun jj => (World.frozen?_of_block (a := ⟨w.heap.size + 1, jj, none⟩) (hlow2 (w.heap.size + 1) (by omega))).trans (fw.fH jj)⟩
  · have hH : w.heap.size + 1 < WF.heap.size := by omega
    exact ⟨fun i hi => hcf hH (fw.r0 i hi), fun i hi => hcf hH (fw.r1 i hi), fun i hi => hcf hH (fw.r2 i hi), fun i hi => hcf hH (fw.r3 i hi), fun i hi => hcf hH (fw.r4 i hi), fun i hi => hcf hH (fw.r5 i hi),
      fun i hi => hcl (by show WF.heap.size + 1 + i < Q; omega) (ft.u6 i hi)⟩
  · refine ⟨fun q hq => ?_, free_made bEN⟩
    rw [show Q + 4 = Q + 1 + 3 from rfl, cell_block bEN]
    match q, hq with
    | 0, _ => rfl
    | 1, _ => rfl
    | 2, _ => rfl
    | 3, _ => rfl
    | 4, _ => rfl
  · rw [cell_block bQ]
    match q, hq with
    | 0, _ => rfl
    | 1, _ => rfl
    | 2, _ => rfl
    | 3, _ => rfl
    | 4, _ => rfl

theorem srQ (N TB Q n : Nat) (h1 : N + 2 < TB) (hQ : TB + 1 + n = Q) : ¬ SR (blkG N TB Q) n (Q + 4) Q := by
  unfold SR blkG
  rintro (e | e | e | ⟨i, hi, e⟩)
  · have : Q = N + 1 := e; omega
  · omega
  · have : Q = Q + 3 := e; omega
  · have : Q = TB + 1 + i := e; omega
theorem srLow (N TB Q n x : Nat) (h1 : N + 2 < TB) (hQ : TB + 1 + n = Q) (hx : x < N) : ¬ SR (blkG N TB Q) n (Q + 4) x := by
  unfold SR blkG
  rintro (e | e | e | ⟨i, hi, e⟩)
  · have : x = N + 1 := e; omega
  · omega
  · have : x = Q + 3 := e; omega
  · have : x = TB + 1 + i := e; omega

theorem five_cells {W : World} {b : Nat} {e : Nat → Nat} {ty : TypeId} (h : W.heap[b]? = some (.cells #[.int .i32 (e 0), .int .i32 (e 1), .int .i32 (e 2), .int .i32 (e 3), .int .i32 (e 4)] ty)) : ∀ q, q < 5 → W.cell? ⟨b, q, none⟩ = some (.int .i32 (e q)) := fun q hq => by
  rw [cell_block h]
  match q, hq with
  | 0, _ => rfl
  | 1, _ => rfl
  | 2, _ => rfl
  | 3, _ => rfl
  | 4, _ => rfl

theorem seenStep {W7 wr : World} {SN m t : Nat} {sn : Nat → Bool} (cs : ∀ t, t < m + 1 → wr.cell? ⟨SN, t, none⟩ = some (.bool (sn t))) (fs : Free wr SN) (tw : Tch (fun x => x = SN) W7 wr) (ht : t < m + 1) (o : Obj) :
    (∀ t', t' < m + 1 → ((wr.setCell ⟨SN, t, none⟩ (.bool true)).alloc o).cell? ⟨SN, t', none⟩ = some (.bool (put sn t true t'))) ∧ Free ((wr.setCell ⟨SN, t, none⟩ (.bool true)).alloc o) SN ∧ Tch (fun x => x = SN) W7 ((wr.setCell ⟨SN, t, none⟩ (.bool true)).alloc o) := by
  have hlt : SN < (wr.setCell ⟨SN, t, none⟩ (.bool true)).heap.size := by
    have : SN < wr.heap.size := lt_of_cell (p := ⟨SN, t, none⟩) (cs t ht)
    simpa [World.setCell] using this
  refine ⟨fun t' ht' => ?_, Free.alloc (fs.set _ _) hlt _, (tw.setCell (p := ⟨SN, t, none⟩) rfl _).alloc _⟩
  rw [World.cell?_of_block (w := wr.setCell ⟨SN, t, none⟩ (.bool true)) (Below.heap_alloc _ _ _ hlt)]
  by_cases e : t' = t
  · subst e; rw [put_same]; exact World.cell?_setCell_same _ _ _ (cs t' ht')
  · rw [put_other _ _ e, World.cell?_setCell_other _ _ _ _ (fun e' => by injection e'; omega)]; exact cs t' ht'

/-- What the removal left, as the law asks for it. -/
structure Ver (m : Nat) (g E : Nat → Nat) (j : Nat) (tx ws en : Nat → Nat) : Prop where
  le : ∀ q, q < 5 → en q ≤ m
  mono : ∀ a b, a ≤ b → b < 5 → en a ≤ en b
  last : en 4 = m
  at_ : ∀ k p, k < 5 → p < en k → (∀ q, q < k → en q ≤ p) → p < m ∧ tx p < m + 1 ∧ tx p ≠ j ∧ ws (tx p) = p ∧ g (tx p) = k
  lowers : ∀ q, q < 5 → g j ≤ q → en q + 1 = E q
  keeps : ∀ q, q < 5 → ¬ g j ≤ q → en q = E q

theorem ver {m j hole : Nat} {g tx0 pos E tx ws en : Nat → Nat} (hG : Good (m + 1) g tx0 pos E) (hg : ∀ t, t < m + 1 → g t < 5) (hj : j < m + 1) (h : Rem (m + 1) g E j 5 tx ws en hole) : Ver m g E j tx ws en := by
  have hm : ∀ a b, a ≤ b → b < 5 → en a ≤ en b := fun a b hab hb => by
    rcases Nat.lt_or_ge (en b) (en a) with hlt | hge
    · have h1 := h.lo a (by omega) (by omega)
      have h2 := h.hole_lt
      have h3 := (h.grp (en b) (by omega) (by omega) a (by omega)).1 hlt
      have h4 := (h.grp (en b) (by omega) (by omega) b hb).2 (by omega)
      omega
    · exact hge
  have hlow : ∀ q, q < 5 → g j ≤ q → en q + 1 = E q := fun q hq hgq => by
    have h1 := h.en_eq q hq
    rw [if_pos ⟨hgq, hq⟩] at h1
    have h2 := (hG.ends q hq).2 (pos j) (hG.all j hj).1
    rw [(hG.all j hj).2] at h2
    have := h2.2 hgq
    omega
  refine ⟨fun q hq => ?_, hm, ?_, fun k p hk hp hlo => ?_, hlow, fun q hq hgq => ?_⟩
  · have := h.lo q hq hq
    have := h.hole_lt
    omega
  · have h1 := hlow 4 (by omega) (by have := hg j hj; omega)
    have h2 := hG.last hg
    omega
  · have h1 := h.lo k hk hk
    have h2 := h.hole_lt
    obtain ⟨r1, r2, r3⟩ := h.row p (by omega) (by omega)
    have h3 := (h.grp p (by omega) (by omega) k hk).1 hp
    refine ⟨by omega, r1, r2, r3, ?_⟩
    rcases Nat.lt_or_ge (g (tx p)) k with hlt | hge
    · have h4 := (h.grp p (by omega) (by omega) (g (tx p)) (by omega)).2 (Nat.le_refl _)
      have := hlo _ hlt
      omega
    · omega
  · have h1 := h.en_eq q hq
    rw [if_neg (by omega)] at h1
    exact h1

end Gr
end Go.Proofs.Ybulkaylc
