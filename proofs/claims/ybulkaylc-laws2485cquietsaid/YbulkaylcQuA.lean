import Derived.Test.YbulkaylcSwE
namespace Go.Proofs.Ybulkaylc
open Go.RowKit
set_option linter.unusedVariables false
namespace Qu
open Sw

/-- The blocks of the quiet law. -/
structure BlkQ where
  L : Nat
  WI : Nat
  QQ : Nat
  QB : Nat
  T : Nat
  U : Nat → Nat

structure ApQ (b : BlkQ) (n : Nat) : Prop where
  inj : ∀ i j, i < n → j < n → b.U i = b.U j → i = j
  uL : ∀ i, i < n → b.U i ≠ b.L
  uWI : ∀ i, i < n → b.U i ≠ b.WI
  uQQ : ∀ i, i < n → b.U i ≠ b.QQ
  uQB : ∀ i, i < n → b.U i ≠ b.QB
  uT : ∀ i, i < n → b.U i ≠ b.T
  bL : b.QB ≠ b.L
  bWI : b.QB ≠ b.WI
  bQQ : b.QB ≠ b.QQ
  bT : b.QB ≠ b.T
  qL : b.QQ ≠ b.L
  qWI : b.QQ ≠ b.WI
  qT : b.QQ ≠ b.T

structure EnvQ (w : World) (b : BlkQ) (n : Nat) : Prop where
  cL10 : w.cell? ⟨b.L, 10, none⟩ = some (.slice (some ⟨b.T, 0, none⟩) n n)
  cL17 : w.cell? ⟨b.L, 17, none⟩ = some (.pointer (some ⟨b.WI, 0, none⟩))
  cWI4 : w.cell? ⟨b.WI, 4, none⟩ = some (.slice (some ⟨b.QQ, 0, none⟩) 2 2)
  cT : ∀ i, i < n → w.cell? ⟨b.T, i * 11, none⟩ = some (.slice (some ⟨b.U i, 0, none⟩) 1 1)
  cU0 : ∀ i, i < n → w.cell? ⟨b.U i, 0, none⟩ = some (.int .i32 0)
  cU3 : ∀ i, i < n → w.cell? ⟨b.U i, 3, none⟩ = some (.bool false)
  fU : ∀ i, i < n → w.frozen? ⟨b.U i, 5, none⟩ = false
  fQB : ∀ j, w.frozen? ⟨b.QB, j, none⟩ = false
  fQQ : w.frozen? ⟨b.QQ, 0, none⟩ = false

structure RowsQ (w : World) (b : BlkQ) (n : Nat) (tx sl : Nat → Nat) : Prop where
  r0 : ∀ i, i < n → w.cell? ⟨b.QB, i * 2, none⟩ = some (.int .i32 (tx i))
  r1 : ∀ i, i < n → w.cell? ⟨b.QB, i * 2 + 1, none⟩ = some (.int .i32 0)
  slot : ∀ i, i < n → w.cell? ⟨b.U i, 5, none⟩ = some (.int .i32 (sl i))

theorem EnvQ.set {w : World} {b : BlkQ} {n : Nat} (h : EnvQ w b n) (p : Addr) (v : Value) (h1 : p ≠ ⟨b.L, 10, none⟩) (h2 : p ≠ ⟨b.L, 17, none⟩) (h3 : p ≠ ⟨b.WI, 4, none⟩) (h4 : ∀ i, i < n → p ≠ ⟨b.T, i * 11, none⟩) (h5 : ∀ i, i < n → p ≠ ⟨b.U i, 0, none⟩) (h6 : ∀ i, i < n → p ≠ ⟨b.U i, 3, none⟩) : EnvQ (w.setCell p v) b n :=
  ⟨(World.cell?_setCell_other _ _ _ _ h1).trans h.cL10, (World.cell?_setCell_other _ _ _ _ h2).trans h.cL17, (World.cell?_setCell_other _ _ _ _ h3).trans h.cWI4, fun i hi => (World.cell?_setCell_other _ _ _ _ (h4 i hi)).trans (h.cT i hi), fun i hi => (World.cell?_setCell_other _ _ _ _ (h5 i hi)).trans (h.cU0 i hi), fun i hi => (World.cell?_setCell_other _ _ _ _ (h6 i hi)).trans (h.cU3 i hi),
    fun i hi => by rw [World.frozen?_setCell]; exact h.fU i hi, fun j => by rw [World.frozen?_setCell]; exact h.fQB j, by rw [World.frozen?_setCell]; exact h.fQQ⟩
theorem EnvQ.drewN {w : World} {b : BlkQ} {n : Nat} (h : EnvQ w b n) (k : Nat) : EnvQ (w.drewN k) b n := ⟨h.1, h.2, h.3, h.4, h.5, h.6, h.7, h.8, h.9⟩
theorem RowsQ.drewN {w : World} {b : BlkQ} {n : Nat} {tx sl : Nat → Nat} (h : RowsQ w b n tx sl) (k : Nat) : RowsQ (w.drewN k) b n tx sl := ⟨h.1, h.2, h.3⟩
theorem EnvQ.alloc {w : World} {b : BlkQ} {n : Nat} (h : EnvQ w b n) (o : Obj) (lb : b.QB < w.heap.size) (lq : b.QQ < w.heap.size) : EnvQ (w.alloc o) b n := by
  have t : Tch (fun _ => False) w (w.alloc o) := (Tch.refl _ w).alloc _
  exact ⟨t.cell h.cL10 (fun e => e), t.cell h.cL17 (fun e => e), t.cell h.cWI4 (fun e => e), fun i hi => t.cell (h.cT i hi) (fun e => e), fun i hi => t.cell (h.cU0 i hi) (fun e => e), fun i hi => t.cell (h.cU3 i hi) (fun e => e),
    fun i hi => (World.frozen?_of_block (w := w) (a := ⟨b.U i, 5, none⟩) (t.block _ (lt_of_cell (p := ⟨b.U i, 0, none⟩) (h.cU0 i hi)) (fun e => e))).trans (h.fU i hi), fun j => (World.frozen?_of_block (w := w) (a := ⟨b.QB, j, none⟩) (t.block _ lb (fun e => e))).trans (h.fQB j), (World.frozen?_of_block (w := w) (a := ⟨b.QQ, 0, none⟩) (t.block _ lq (fun e => e))).trans h.fQQ⟩
theorem RowsQ.alloc {w : World} {b : BlkQ} {n : Nat} {tx sl : Nat → Nat} (h : RowsQ w b n tx sl) (o : Obj) : RowsQ (w.alloc o) b n tx sl := by
  have t : Tch (fun _ => False) w (w.alloc o) := (Tch.refl _ w).alloc _
  exact ⟨fun i hi => t.cell (h.r0 i hi) (fun e => e), fun i hi => t.cell (h.r1 i hi) (fun e => e), fun i hi => t.cell (h.slot i hi) (fun e => e)⟩
/-- A row stored over. -/
theorem RowsQ.row {w : World} {b : BlkQ} {n : Nat} {tx sl : Nat → Nat} (h : RowsQ w b n tx sl) (ap : ApQ b n) (r v : Nat) (hr : r < n) : RowsQ ((w.setCell ⟨b.QB, r * 2, none⟩ (.int .i32 v)).setCell ⟨b.QB, r * 2 + 1, none⟩ (.int .i32 0)) b n (put tx r v) sl := by
  refine ⟨fun i hi => ?_, fun i hi => ?_, fun i hi => ?_⟩
  · rw [World.cell?_setCell_other _ _ _ _ (fun e => by injection e; omega)]
    by_cases e : i = r
    · subst e; rw [put_same]; exact World.cell?_setCell_same _ _ _ (h.r0 i hi)
    · rw [put_other _ _ e, World.cell?_setCell_other _ _ _ _ (fun e' => by injection e'; omega)]; exact h.r0 i hi
  · by_cases e : i = r
    · subst e
      exact World.cell?_setCell_same _ _ _ ((World.cell?_setCell_other _ _ _ _ (fun e' => by injection e'; omega)).trans (h.r1 i hi))
    · rw [World.cell?_setCell_other _ _ _ _ (fun e' => by injection e'; omega), World.cell?_setCell_other _ _ _ _ (fun e' => by injection e'; omega)]; exact h.r1 i hi
  · rw [World.cell?_setCell_other _ _ _ _ (fun e => by injection e with e1; exact ap.uQB i hi e1.symm), World.cell?_setCell_other _ _ _ _ (fun e => by injection e with e1; exact ap.uQB i hi e1.symm)]; exact h.slot i hi
theorem RowsQ.slotSet {w : World} {b : BlkQ} {n : Nat} {tx sl : Nat → Nat} (h : RowsQ w b n tx sl) (ap : ApQ b n) (t v : Nat) (ht : t < n) : RowsQ (w.setCell ⟨b.U t, 5, none⟩ (.int .i32 v)) b n tx (put sl t v) := by
  refine ⟨fun i hi => ?_, fun i hi => ?_, fun i hi => ?_⟩
  · rw [World.cell?_setCell_other _ _ _ _ (fun e => by injection e with e1; exact ap.uQB t ht e1)]; exact h.r0 i hi
  · rw [World.cell?_setCell_other _ _ _ _ (fun e => by injection e with e1; exact ap.uQB t ht e1)]; exact h.r1 i hi
  · by_cases e : i = t
    · subst e; rw [put_same]; exact World.cell?_setCell_same _ _ _ (h.slot i hi)
    · rw [put_other _ _ e, World.cell?_setCell_other _ _ _ _ (fun e' => by injection e' with e1; exact e (ap.inj i t hi ht e1.symm))]; exact h.slot i hi
theorem RowsQ.qq {w : World} {b : BlkQ} {n : Nat} {tx sl : Nat → Nat} (h : RowsQ w b n tx sl) (ap : ApQ b n) (v : Value) : RowsQ (w.setCell ⟨b.QQ, 0, none⟩ v) b n tx sl := by
  refine ⟨fun i hi => ?_, fun i hi => ?_, fun i hi => ?_⟩
  · rw [World.cell?_setCell_other _ _ _ _ (fun e => by injection e with e1; exact ap.bQQ e1.symm)]; exact h.r0 i hi
  · rw [World.cell?_setCell_other _ _ _ _ (fun e => by injection e with e1; exact ap.bQQ e1.symm)]; exact h.r1 i hi
  · rw [World.cell?_setCell_other _ _ _ _ (fun e => by injection e with e1; exact ap.uQQ i hi e1.symm)]; exact h.slot i hi

set_option maxHeartbeats 1000000 in
set_option maxRecDepth 100000 in
theorem untellQ (b : BlkQ) (m r : Nat) (v1 : Value) (w : World) (hm : m + 1 ≤ 1024) (hr : r < m + 1) (ap : ApQ b (m + 1)) (env : EnvQ w b (m + 1)) (rs : RowsQ w b (m + 1) (fun i => i) (fun i => i))
    (cQ : w.cell? ⟨b.QQ, 0, none⟩ = some (.slice (some ⟨b.QB, 0, none⟩) (m + 1) (m + 1))) :
    Calls Yba.prog 11 #[.pointer (some ⟨b.L, 0, none⟩), .int .i64 r, .pointer (some ⟨b.U r, 0, none⟩)] w fun e w' => e = .returned (.tuple #[]) ∧ Tch (fun x => x = b.QB ∨ x = b.U m ∨ x = b.QQ) w w' ∧ RowsQ w' b (m + 1) (put (fun i => i) r m) (put (fun i => i) m r) ∧
      w'.cell? ⟨b.QQ, 0, none⟩ = some (.slice (some ⟨b.QB, 0, none⟩) m (m + 1)) ∧ (w.cell? ⟨b.QQ, 1, none⟩ = some v1 → w'.cell? ⟨b.QQ, 1, none⟩ = some v1) := by
  have cL10 := env.cL10
  have cL17 := env.cL17
  have cWI4 := env.cWI4
  have cTm := env.cT m (by omega)
  have cU0 := env.cU0 r hr
  have cU3 := env.cU3 r hr
  have cU5 := rs.slot r hr
  have q0 := rs.r0 m (by omega)
  have q1 := rs.r1 m (by omega)
  have hmI : (m : Int) < (m : Int) + 1 := by omega
  have hrI : (r : Int) < (m : Int) + 1 := by omega
  have hlt : b.QB < w.heap.size := lt_of_cell (p := ⟨b.QB, m * 2, none⟩) q0
  have hlU : b.U r < w.heap.size := lt_of_cell (p := ⟨b.U r, 0, none⟩) cU0
  have ENV := hide env
  have RS := hide rs
  have AP := hide ap
  clear env rs ap
  go_enter Yba.func11, Yba.ntmps11
  go_wp2_with fail
  go_quiet (fail)
  have ENV1 : Hid (EnvQ (w.drewN nq) b (m + 1)) := ⟨cL10, cL17, cWI4, ENV.out.cT, ENV.out.cU0, ENV.out.cU3, ENV.out.fU, ENV.out.fQB, ENV.out.fQQ⟩
  have RS1 : Hid (RowsQ (w.drewN nq) b (m + 1) (fun i => i) (fun i => i)) := ⟨RS.out.r0, RS.out.r1, RS.out.slot⟩
  have T1 : Hid (Tch (fun x => x = b.QB ∨ x = b.U m ∨ x = b.QQ) w (w.drewN nq)) := (Tch.refl _ w).drewN nq
  have CQ : Hid ((w.drewN nq).cell? ⟨b.QQ, 0, none⟩ = some (.slice (some ⟨b.QB, 0, none⟩) (m + 1) (m + 1))) := cQ
  have HQ1 : Hid (w.cell? ⟨b.QQ, 1, none⟩ = some v1 → (w.drewN nq).cell? ⟨b.QQ, 1, none⟩ = some v1) := fun h => h
  clear cL10 cL17 cWI4 cTm cU0 cU3 cU5 q0 q1 hlt hlU cQ ENV RS
  generalize w.drewN nq = W1 at *
  have q0 := RS1.out.r0 m (by omega)
  have q1 := RS1.out.r1 m (by omega)
  go_upto_region 9 with (fail)
  have hbX := block_new W1 (.cells #[.int .i32 m, .int .i32 0] 98)
  have lQB : b.QB < W1.heap.size := lt_of_cell (p := ⟨b.QB, m * 2, none⟩) q0
  have lQQ : b.QQ < W1.heap.size := lt_of_cell (p := ⟨b.QQ, 0, none⟩) CQ.out
  have lU : ∀ i, i < m + 1 → b.U i < W1.heap.size := fun i hi => lt_of_cell (p := ⟨b.U i, 0, none⟩) (ENV1.out.cU0 i hi)
  have LU := hide lU
  have t1 : Tch (fun _ => False) W1 (W1.alloc (.cells #[.int .i32 m, .int .i32 0] 98)) := (Tch.refl _ W1).alloc _
  have ENV2 := hide (ENV1.out.alloc (.cells #[.int .i32 m, .int .i32 0] 98) lQB lQQ)
  have RS2 := hide (RS1.out.alloc (.cells #[.int .i32 m, .int .i32 0] 98))
  have T2 : Hid (Tch (fun x => x = b.QB ∨ x = b.U m ∨ x = b.QQ) w (W1.alloc (.cells #[.int .i32 m, .int .i32 0] 98))) := T1.out.alloc _
  have CQ2 := hide (t1.cell CQ.out (fun e => e))
  have HQ2 : Hid (w.cell? ⟨b.QQ, 1, none⟩ = some v1 → (W1.alloc (.cells #[.int .i32 m, .int .i32 0] 98)).cell? ⟨b.QQ, 1, none⟩ = some v1) := fun h => t1.cell (HQ1.out h) (fun e => e)
  have x0 : (W1.alloc (.cells #[.int .i32 m, .int .i32 0] 98)).cell? ⟨W1.heap.size, 0, none⟩ = some (.int .i32 m) := cell_block hbX 0
  have x1 : (W1.alloc (.cells #[.int .i32 m, .int .i32 0] 98)).cell? ⟨W1.heap.size, 1, none⟩ = some (.int .i32 0) := cell_block hbX 1
  clear q0 q1 hbX lU t1 ENV1 RS1 T1 CQ HQ1
  generalize W1.alloc (.cells #[.int .i32 m, .int .i32 0] 98) = W2 at *
  generalize W1.heap.size = X at *
  have c5 := RS2.out.slot r hr
  have d0 := RS2.out.r0 r hr
  have d1 := RS2.out.r1 r hr
  have f0 := ENV2.out.fQB (r * 2)
  have f1 := ENV2.out.fQB (r * 2 + 1)
  go_region
  have ap := AP.out
  have ENV3 := hide (((ENV2.out.set ⟨b.QB, r * 2, none⟩ (.int .i32 m) (fun e => by injection e with e; exact ap.bL e) (fun e => by injection e with e; exact ap.bL e) (fun e => by injection e with e; exact ap.bWI e) (fun i hi e => by injection e with e; exact ap.bT e) (fun i hi e => by injection e with e; exact ap.uQB i hi e.symm) (fun i hi e => by injection e with e; exact ap.uQB i hi e.symm)).set ⟨b.QB, r * 2 + 1, none⟩ (.int .i32 0) (fun e => by injection e with e; exact ap.bL e) (fun e => by injection e with e; exact ap.bL e) (fun e => by injection e with e; exact ap.bWI e) (fun i hi e => by injection e with e; exact ap.bT e) (fun i hi e => by injection e with e; exact ap.uQB i hi e.symm) (fun i hi e => by injection e with e; exact ap.uQB i hi e.symm)).drewN 1)
  have RS3 := hide ((RS2.out.row ap r m hr).drewN 1)
  have t3 : Tch (fun x => x = b.QB) W2 ((W2.setCell ⟨b.QB, r * 2, none⟩ (.int .i32 m)).setCell ⟨b.QB, r * 2 + 1, none⟩ (.int .i32 0)).drew := (((Tch.refl (fun x => x = b.QB) W2).setCell (p := ⟨b.QB, r * 2, none⟩) rfl _).setCell (p := ⟨b.QB, r * 2 + 1, none⟩) rfl _).drewN 1
  have T3 : Hid (Tch (fun x => x = b.QB ∨ x = b.U m ∨ x = b.QQ) w ((W2.setCell ⟨b.QB, r * 2, none⟩ (.int .i32 m)).setCell ⟨b.QB, r * 2 + 1, none⟩ (.int .i32 0)).drew) := T2.out.trans (t3.mono (fun x hx => Or.inl hx))
  have CQ3 := hide (t3.cell CQ2.out (fun e => ap.bQQ e.symm))
  have HQ3 : Hid (w.cell? ⟨b.QQ, 1, none⟩ = some v1 → ((W2.setCell ⟨b.QB, r * 2, none⟩ (.int .i32 m)).setCell ⟨b.QB, r * 2 + 1, none⟩ (.int .i32 0)).drew.cell? ⟨b.QQ, 1, none⟩ = some v1) := fun h => t3.cell (HQ2.out h) (fun e => ap.bQQ e.symm)
  have y0 := t3.cell x0 (by show ¬ X = b.QB; omega)
  have y1 := t3.cell x1 (by show ¬ X = b.QB; omega)
  change Hid (EnvQ ((W2.setCell ⟨b.QB, r * 2, none⟩ (.int .i32 m)).setCell ⟨b.QB, r * 2 + 1, none⟩ (.int .i32 0)).drew b (m + 1)) at ENV3
  change Hid (RowsQ ((W2.setCell ⟨b.QB, r * 2, none⟩ (.int .i32 m)).setCell ⟨b.QB, r * 2 + 1, none⟩ (.int .i32 0)).drew b (m + 1) _ _) at RS3
  clear c5 d0 d1 f0 f1 x0 x1 t3 ENV2 RS2 T2 CQ2 HQ2 ap
  generalize ((W2.setCell ⟨b.QB, r * 2, none⟩ (.int .i32 m)).setCell ⟨b.QB, r * 2 + 1, none⟩ (.int .i32 0)).drew = W3 at *
  go_wp2_with fail
  have e10 := ENV3.out.cL10
  have eT := ENV3.out.cT m (by omega)
  have c5 := RS3.out.slot r hr
  have c6 := RS3.out.slot m (by omega)
  have fm := ENV3.out.fU m (by omega)
  go_region
  have ap := AP.out
  have RS4 : Hid (RowsQ (W3.setCell ⟨b.U m, 5, none⟩ (.int .i32 r)).drew b (m + 1) (put (fun i => i) r m) (put (fun i => i) m r)) := (RS3.out.slotSet ap m r (by omega)).drewN 1
  have ENV4 : Hid (EnvQ (W3.setCell ⟨b.U m, 5, none⟩ (.int .i32 r)).drew b (m + 1)) := (ENV3.out.set ⟨b.U m, 5, none⟩ (.int .i32 r) (fun e => by injection e with e; exact ap.uL m (by omega) e) (fun e => by injection e with e; exact ap.uL m (by omega) e) (fun e => by injection e with e; exact ap.uWI m (by omega) e) (fun i hi e => by injection e with e; exact ap.uT m (by omega) e) (fun i hi e => by injection e; omega) (fun i hi e => by injection e; omega)).drewN 1
  have t4 : Tch (fun x => x = b.U m) W3 (W3.setCell ⟨b.U m, 5, none⟩ (.int .i32 r)).drew := ((Tch.refl (fun x => x = b.U m) W3).setCell (p := ⟨b.U m, 5, none⟩) rfl _).drewN 1
  have T4 : Hid (Tch (fun x => x = b.QB ∨ x = b.U m ∨ x = b.QQ) w (W3.setCell ⟨b.U m, 5, none⟩ (.int .i32 r)).drew) := T3.out.trans (t4.mono (fun x hx => Or.inr (Or.inl hx)))
  have CQ4 := t4.cell CQ3.out (fun e => ap.uQQ m (by omega) e.symm)
  have HQ4 : Hid (w.cell? ⟨b.QQ, 1, none⟩ = some v1 → (W3.setCell ⟨b.U m, 5, none⟩ (.int .i32 r)).drew.cell? ⟨b.QQ, 1, none⟩ = some v1) := fun h => t4.cell (HQ3.out h) (fun e => ap.uQQ m (by omega) e.symm)
  clear e10 eT c5 c6 fm y0 y1 ENV3 RS3 T3 CQ3 HQ3 t4 ap
  generalize (W3.setCell ⟨b.U m, 5, none⟩ (.int .i32 r)).drew = W4 at *
  go_wp2_with fail
  have e17 := ENV4.out.cL17
  have e4 := ENV4.out.cWI4
  have eU := ENV4.out.cU0 r hr
  have fq := ENV4.out.fQQ
  go_region
  go_wp2_with fail
  go_end0
  have ap := AP.out
  have t5 : Tch (fun x => x = b.QQ) W4 (W4.setCell ⟨b.QQ, 0, none⟩ (.slice (some ⟨b.QB, 0, none⟩) m (m + 1))).drew := ((Tch.refl (fun x => x = b.QQ) W4).setCell (p := ⟨b.QQ, 0, none⟩) rfl _).drewN 1
  refine ⟨rfl, T4.out.trans (t5.mono (fun x hx => Or.inr (Or.inr hx))), (RS4.out.qq ap _).drewN 1, World.cell?_setCell_same _ _ _ CQ4, fun h => ?_⟩
  exact (World.cell?_setCell_other _ _ _ _ (fun e => by injection e; omega)).trans (HQ4.out h)

end Qu
end Go.Proofs.Ybulkaylc
