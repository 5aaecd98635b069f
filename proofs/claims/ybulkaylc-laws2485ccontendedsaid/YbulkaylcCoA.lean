import Derived.Test.YbulkaylcSwE
namespace Go.Proofs.Ybulkaylc
open Go.RowKit
set_option linter.unusedVariables false
namespace Co
open Sw

structure BlkC where
  L : Nat
  WI : Nat
  CC : Nat
  LI : Nat
  TB : Nat
  T : Nat
  UB : Nat

structure EnvC (w : World) (b : BlkC) (n : Nat) : Prop where
  cL10 : w.cell? ⟨b.L, 10, none⟩ = some (.slice (some ⟨b.T, 0, none⟩) 1 1)
  cL17 : w.cell? ⟨b.L, 17, none⟩ = some (.pointer (some ⟨b.WI, 0, none⟩))
  cWI5 : w.cell? ⟨b.WI, 5, none⟩ = some (.slice (some ⟨b.CC, 0, none⟩) 1 1)
  cWI6 : w.cell? ⟨b.WI, 6, none⟩ = some (.slice (some ⟨b.LI, 0, none⟩) 1 1)
  cLI : w.cell? ⟨b.LI, 0, none⟩ = some (.int .i32 0)
  cT : w.cell? ⟨b.T, 0, none⟩ = some (.slice (some ⟨b.UB, 0, none⟩) n n)
  fT : ∀ j, w.frozen? ⟨b.TB, j, none⟩ = false
  fU : ∀ j, w.frozen? ⟨b.UB, j, none⟩ = false
  fC : w.frozen? ⟨b.CC, 0, none⟩ = false

structure RowsC (w : World) (b : BlkC) (n : Nat) (td sl : Nat → Nat) : Prop where
  t : ∀ i, i < n → w.cell? ⟨b.TB, i, none⟩ = some (.int .i32 (td i))
  s : ∀ i, i < n → w.cell? ⟨b.UB, i * 9 + 5, none⟩ = some (.int .i32 (sl i))

theorem EnvC.drewN {w : World} {b : BlkC} {n : Nat} (h : EnvC w b n) (k : Nat) : EnvC (w.drewN k) b n := ⟨h.1, h.2, h.3, h.4, h.5, h.6, h.7, h.8, h.9⟩
theorem RowsC.drewN {w : World} {b : BlkC} {n : Nat} {td sl : Nat → Nat} (h : RowsC w b n td sl) (k : Nat) : RowsC (w.drewN k) b n td sl := ⟨h.1, h.2⟩
theorem EnvC.set {w : World} {b : BlkC} {n : Nat} (h : EnvC w b n) (p : Addr) (v : Value) (h1 : p.block ≠ b.L) (h2 : p.block ≠ b.WI) (h3 : p.block ≠ b.LI) (h4 : p.block ≠ b.T) : EnvC (w.setCell p v) b n := by
  have hc : ∀ {a : Addr} {u : Value}, w.cell? a = some u → p.block ≠ a.block → (w.setCell p v).cell? a = some u := fun {a u} ha hne => (World.cell?_setCell_other _ _ _ _ (fun e => hne (by rw [e]))).trans ha
  exact ⟨hc h.cL10 h1, hc h.cL17 h1, hc h.cWI5 h2, hc h.cWI6 h2, hc h.cLI h3, hc h.cT h4, fun j => by rw [World.frozen?_setCell]; exact h.fT j, fun j => by rw [World.frozen?_setCell]; exact h.fU j, by rw [World.frozen?_setCell]; exact h.fC⟩
theorem RowsC.told {w : World} {b : BlkC} {n : Nat} {td sl : Nat → Nat} (h : RowsC w b n td sl) (hne : b.TB ≠ b.UB) (a v : Nat) (ha : a < n) : RowsC (w.setCell ⟨b.TB, a, none⟩ (.int .i32 v)) b n (put td a v) sl := by
  refine ⟨fun i hi => ?_, fun i hi => ?_⟩
  · by_cases e : i = a
    · subst e; rw [put_same]; exact World.cell?_setCell_same _ _ _ (h.t i hi)
    · rw [put_other _ _ e, World.cell?_setCell_other _ _ _ _ (fun e' => by injection e'; omega)]; exact h.t i hi
  · rw [World.cell?_setCell_other _ _ _ _ (fun e' => by injection e' with e1; exact hne e1)]; exact h.s i hi
theorem RowsC.slot {w : World} {b : BlkC} {n : Nat} {td sl : Nat → Nat} (h : RowsC w b n td sl) (hne : b.TB ≠ b.UB) (a v : Nat) (ha : a < n) : RowsC (w.setCell ⟨b.UB, a * 9 + 5, none⟩ (.int .i32 v)) b n td (put sl a v) := by
  refine ⟨fun i hi => ?_, fun i hi => ?_⟩
  · rw [World.cell?_setCell_other _ _ _ _ (fun e' => by injection e' with e1; exact hne e1.symm)]; exact h.t i hi
  · by_cases e : i = a
    · subst e; rw [put_same]; exact World.cell?_setCell_same _ _ _ (h.s i hi)
    · rw [put_other _ _ e, World.cell?_setCell_other _ _ _ _ (fun e' => by injection e'; omega)]; exact h.s i hi

set_option maxHeartbeats 1000000 in
set_option maxRecDepth 100000 in
/-- 'swapTold' at two places. -/
theorem swapTold (b : BlkC) (n a c ta tc : Nat) (td sl : Nat → Nat) (w : World) (hn : n ≤ 1024) (ha : a < n) (hc : c < n) (hta : td a = ta) (htc : td c = tc) (hta' : ta < n) (htc' : tc < n) (hne : a ≠ c) (hte : ta ≠ tc)
    (ap : b.TB ≠ b.UB) (tL : b.TB ≠ b.L) (tW : b.TB ≠ b.WI) (tI : b.TB ≠ b.LI) (tT : b.TB ≠ b.T) (uL : b.UB ≠ b.L) (uW : b.UB ≠ b.WI) (uI : b.UB ≠ b.LI) (uT : b.UB ≠ b.T)
    (env : EnvC w b n) (rs : RowsC w b n td sl) (cC : w.cell? ⟨b.CC, 0, none⟩ = some (.slice (some ⟨b.TB, 0, none⟩) n n)) :
    Calls Yba.prog 17 #[.pointer (some ⟨b.L, 0, none⟩), .int .i64 0, .int .i32 a, .int .i32 c] w fun e w' => e = .returned (.tuple #[]) ∧ Tch (fun x => x = b.TB ∨ x = b.UB) w w' ∧ EnvC w' b n ∧ RowsC w' b n (put (put td a tc) c ta) (put (put sl tc a) ta c) := by
  have cL10 := env.cL10
  have cL17 := env.cL17
  have cW := env.cWI5
  have cT := env.cT
  have ENV := hide env
  have RS := hide rs
  have haI : (a : Int) < (n : Int) := by omega
  have hcI : (c : Int) < (n : Int) := by omega
  have htaI : (ta : Int) < (n : Int) := by omega
  have htcI : (tc : Int) < (n : Int) := by omega
  clear env rs
  go_enter Yba.func17, Yba.ntmps17
  go_wp2_with fail
  go_quiet (fail)
  have ENV1 := hide (ENV.out.drewN nq)
  have RS1 := hide (RS.out.drewN nq)
  have T1 : Hid (Tch (fun x => x = b.TB ∨ x = b.UB) w (w.drewN nq)) := (Tch.refl _ w).drewN nq
  clear cL10 cL17 cW cT ENV RS cC
  generalize w.drewN nq = W1 at *
  go_wp2_with fail
  have q0 := RS1.out.t a ha
  have q1 := RS1.out.t c hc
  rw [hta] at q0
  rw [htc] at q1
  have f0 := ENV1.out.fT a
  have f1 := ENV1.out.fT c
  go_region
  have RS2 : Hid (RowsC ((W1.setCell ⟨b.TB, a, none⟩ (.int .i32 tc)).setCell ⟨b.TB, c, none⟩ (.int .i32 ta)).drew b n (put (put td a tc) c ta) sl) := ((RS1.out.told ap a tc ha).told ap c ta hc).drewN 1
  have ENV2 : Hid (EnvC ((W1.setCell ⟨b.TB, a, none⟩ (.int .i32 tc)).setCell ⟨b.TB, c, none⟩ (.int .i32 ta)).drew b n) := ((ENV1.out.set ⟨b.TB, a, none⟩ _ tL tW tI tT).set ⟨b.TB, c, none⟩ _ tL tW tI tT).drewN 1
  have T2 : Hid (Tch (fun x => x = b.TB ∨ x = b.UB) w ((W1.setCell ⟨b.TB, a, none⟩ (.int .i32 tc)).setCell ⟨b.TB, c, none⟩ (.int .i32 ta)).drew) := ((T1.out.setCell (p := ⟨b.TB, a, none⟩) (Or.inl rfl) _).setCell (p := ⟨b.TB, c, none⟩) (Or.inl rfl) _).drewN 1
  clear q0 q1 f0 f1 ENV1 RS1 T1
  generalize ((W1.setCell ⟨b.TB, a, none⟩ (.int .i32 tc)).setCell ⟨b.TB, c, none⟩ (.int .i32 ta)).drew = W2 at *
  go_wp2_with fail
  have q0 := RS2.out.t a ha
  have q1 := RS2.out.t c hc
  rw [put_other _ _ hne, put_same] at q0
  rw [put_same] at q1
  have s0 := RS2.out.s ta hta'
  have s1 := RS2.out.s tc htc'
  have f0 := ENV2.out.fU (ta * 9 + 5)
  have f1 := ENV2.out.fU (tc * 9 + 5)
  go_region
  go_wp2_with fail
  go_end0
  refine ⟨rfl, ((T2.out.setCell (p := ⟨b.UB, tc * 9 + 5, none⟩) (Or.inr rfl) _).setCell (p := ⟨b.UB, ta * 9 + 5, none⟩) (Or.inr rfl) _).drewN 1, ((ENV2.out.set ⟨b.UB, tc * 9 + 5, none⟩ _ uL uW uI uT).set ⟨b.UB, ta * 9 + 5, none⟩ _ uL uW uI uT).drewN 1, ((RS2.out.slot ap tc a htc').slot ap ta c hta').drewN 1⟩

end Co
end Go.Proofs.Ybulkaylc
