import Derived.Test.YbulkaylcCoA
namespace Go.Proofs.Ybulkaylc
open Go.RowKit
set_option linter.unusedVariables false
namespace Co
open Sw

set_option maxHeartbeats 1000000 in
set_option maxRecDepth 100000 in
/-- 'swapTold' at one place. -/
theorem swapSame (b : BlkC) (n a ta : Nat) (td sl : Nat → Nat) (w : World) (hn : n ≤ 1024) (ha : a < n) (hta : td a = ta) (hta' : ta < n) 
    (ap : b.TB ≠ b.UB) (tL : b.TB ≠ b.L) (tW : b.TB ≠ b.WI) (tI : b.TB ≠ b.LI) (tT : b.TB ≠ b.T) (uL : b.UB ≠ b.L) (uW : b.UB ≠ b.WI) (uI : b.UB ≠ b.LI) (uT : b.UB ≠ b.T)
    (env : EnvC w b n) (rs : RowsC w b n td sl) (cC : w.cell? ⟨b.CC, 0, none⟩ = some (.slice (some ⟨b.TB, 0, none⟩) n n)) :
    Calls Yba.prog 17 #[.pointer (some ⟨b.L, 0, none⟩), .int .i64 0, .int .i32 a, .int .i32 a] w fun e w' => e = .returned (.tuple #[]) ∧ Tch (fun x => x = b.TB ∨ x = b.UB) w w' ∧ EnvC w' b n ∧ RowsC w' b n (put (put td a ta) a ta) (put (put sl ta a) ta a) := by
  have cL10 := env.cL10
  have cL17 := env.cL17
  have cW := env.cWI5
  have cT := env.cT
  have ENV := hide env
  have RS := hide rs
  have haI : (a : Int) < (n : Int) := by omega
  have htaI : (ta : Int) < (n : Int) := by omega
  clear env rs
  go_enter Yba.func17, Yba.ntmps17
  go_wp2_with fail
  go_quiet (fail)
  have ENV1 := hide (ENV.out.drewN nq)
  have RS1 := hide (RS.out.drewN nq)
  have T1 : Hid (Tch (fun x => x = b.TB ∨ x = b.UB) w (w.drewN nq)) := (Tch.refl _ w).drewN nq
  clear cL10 cL17 cW cT ENV RS cC
  generalize w.drewN nq = W1 at *
  go_wp2_with fail
  have q0 := RS1.out.t a ha
  rw [hta] at q0
  have f0 := ENV1.out.fT a
  go_region
  have RS2 : Hid (RowsC ((W1.setCell ⟨b.TB, a, none⟩ (.int .i32 ta)).setCell ⟨b.TB, a, none⟩ (.int .i32 ta)).drew b n (put (put td a ta) a ta) sl) := ((RS1.out.told ap a ta ha).told ap a ta ha).drewN 1
  have ENV2 : Hid (EnvC ((W1.setCell ⟨b.TB, a, none⟩ (.int .i32 ta)).setCell ⟨b.TB, a, none⟩ (.int .i32 ta)).drew b n) := ((ENV1.out.set ⟨b.TB, a, none⟩ _ tL tW tI tT).set ⟨b.TB, a, none⟩ _ tL tW tI tT).drewN 1
  have T2 : Hid (Tch (fun x => x = b.TB ∨ x = b.UB) w ((W1.setCell ⟨b.TB, a, none⟩ (.int .i32 ta)).setCell ⟨b.TB, a, none⟩ (.int .i32 ta)).drew) := ((T1.out.setCell (p := ⟨b.TB, a, none⟩) (Or.inl rfl) _).setCell (p := ⟨b.TB, a, none⟩) (Or.inl rfl) _).drewN 1
  clear q0 f0 ENV1 RS1 T1
  generalize ((W1.setCell ⟨b.TB, a, none⟩ (.int .i32 ta)).setCell ⟨b.TB, a, none⟩ (.int .i32 ta)).drew = W2 at *
  go_wp2_with fail
  have q0 := RS2.out.t a ha
  rw [put_same] at q0
  have s0 := RS2.out.s ta hta'
  have f0 := ENV2.out.fU (ta * 9 + 5)
  go_region
  go_wp2_with fail
  go_end0
  refine ⟨rfl, ((T2.out.setCell (p := ⟨b.UB, ta * 9 + 5, none⟩) (Or.inr rfl) _).setCell (p := ⟨b.UB, ta * 9 + 5, none⟩) (Or.inr rfl) _).drewN 1, ((ENV2.out.set ⟨b.UB, ta * 9 + 5, none⟩ _ uL uW uI uT).set ⟨b.UB, ta * 9 + 5, none⟩ _ uL uW uI uT).drewN 1, ((RS2.out.slot ap ta a hta').slot ap ta a hta').drewN 1⟩


/-- Both cases. -/
theorem swap (b : BlkC) (n a c : Nat) (td sl : Nat → Nat) (w : World) (hn : n ≤ 1024) (ha : a < n) (hc : c < n) (hr : ∀ i, i < n → td i < n) (hinj : ∀ i j, i < n → j < n → td i = td j → i = j)
    (ap : b.TB ≠ b.UB) (tL : b.TB ≠ b.L) (tW : b.TB ≠ b.WI) (tI : b.TB ≠ b.LI) (tT : b.TB ≠ b.T) (uL : b.UB ≠ b.L) (uW : b.UB ≠ b.WI) (uI : b.UB ≠ b.LI) (uT : b.UB ≠ b.T)
    (env : EnvC w b n) (rs : RowsC w b n td sl) (cC : w.cell? ⟨b.CC, 0, none⟩ = some (.slice (some ⟨b.TB, 0, none⟩) n n)) :
    Calls Yba.prog 17 #[.pointer (some ⟨b.L, 0, none⟩), .int .i64 0, .int .i32 a, .int .i32 c] w fun e w' => e = .returned (.tuple #[]) ∧ Tch (fun x => x = b.TB ∨ x = b.UB) w w' ∧ EnvC w' b n ∧ RowsC w' b n (put (put td a (td c)) c (td a)) (put (put sl (td c) a) (td a) c) := by
  by_cases e : a = c
  · subst e
    exact swapSame b n a (td a) td sl w hn ha rfl (hr a ha) ap tL tW tI tT uL uW uI uT env rs cC
  · exact swapTold b n a c (td a) (td c) td sl w hn ha hc rfl rfl (hr a ha) (hr c hc) e (fun h => e (hinj a c ha hc h)) ap tL tW tI tT uL uW uI uT env rs cC

set_option maxHeartbeats 1000000 in
set_option maxRecDepth 100000 in
/-- 'untell' of a contended, unlisted use. -/
theorem untellC (b : BlkC) (m r : Nat) (td sl : Nat → Nat) (w : World) (hn : m + 1 ≤ 1024) (hrm : r < m + 1) (hr : ∀ i, i < m + 1 → td i < m + 1) (hinj : ∀ i j, i < m + 1 → j < m + 1 → td i = td j → i = j) (hsl : sl (td r) = r)
    (ap : b.TB ≠ b.UB) (tL : b.TB ≠ b.L) (tW : b.TB ≠ b.WI) (tI : b.TB ≠ b.LI) (tT : b.TB ≠ b.T) (uL : b.UB ≠ b.L) (uW : b.UB ≠ b.WI) (uI : b.UB ≠ b.LI) (uT : b.UB ≠ b.T) (cT' : b.CC ≠ b.TB) (cU' : b.CC ≠ b.UB) (cL' : b.CC ≠ b.L) (cW' : b.CC ≠ b.WI) (cI' : b.CC ≠ b.LI) (cTT' : b.CC ≠ b.T)
    (env : EnvC w b (m + 1)) (rs : RowsC w b (m + 1) td sl) (cU3 : w.cell? ⟨b.UB, td r * 9 + 3, none⟩ = some (.bool true)) (cC : w.cell? ⟨b.CC, 0, none⟩ = some (.slice (some ⟨b.TB, 0, none⟩) (m + 1) (m + 1))) :
    Calls Yba.prog 11 #[.pointer (some ⟨b.L, 0, none⟩), .int .i64 0, .pointer (some ⟨b.UB, td r * 9, none⟩)] w fun e w' => e = .returned (.tuple #[]) ∧ Tch (fun x => x = b.TB ∨ x = b.UB ∨ x = b.CC) w w' ∧ EnvC w' b (m + 1) ∧ RowsC w' b (m + 1) (put (put td r (td m)) m (td r)) (put (put sl (td m) r) (td r) m) ∧
      w'.cell? ⟨b.CC, 0, none⟩ = some (.slice (some ⟨b.TB, 0, none⟩) m (m + 1)) := by
  have cL17 := env.cL17
  have cW6 := env.cWI6
  have cLI := env.cLI
  have cU5 := rs.s (td r) (hr r hrm)
  rw [hsl] at cU5
  have hcmp : ¬ (r : Int) < 0 := by omega
  have ENV := hide env
  have RS := hide rs
  have HR := hide hr
  have HI := hide hinj
  clear env rs hr hinj
  go_enter Yba.func11, Yba.ntmps11
  go_wp2_with fail
  go_quiet (fail)
  have ENV1 := hide (ENV.out.drewN nq)
  have RS1 := hide (RS.out.drewN nq)
  have T1 : Hid (Tch (fun x => x = b.TB ∨ x = b.UB ∨ x = b.CC) w (w.drewN nq)) := (Tch.refl _ w).drewN nq
  have CC1 : (w.drewN nq).cell? ⟨b.CC, 0, none⟩ = some (.slice (some ⟨b.TB, 0, none⟩) (m + 1) (m + 1)) := cC
  have d5 : (w.drewN nq).cell? ⟨b.UB, td r * 9 + 5, none⟩ = some (.int .i32 r) := cU5
  clear cL17 cW6 cLI cU5 cU3 cC ENV RS
  generalize w.drewN nq = W1 at *
  have d17 := ENV1.out.cL17
  have dW5 := ENV1.out.cWI5
  go_wp2_with fail
  refine (swap b (m + 1) r m td sl W1 hn hrm (by omega) HR.out HI.out ap tL tW tI tT uL uW uI uT ENV1.out RS1.out CC1).mono ?_
  rintro e W2 ⟨rfl, t2, env2, rs2⟩
  have e17 := env2.cL17
  have e5 := env2.cWI5
  have ec := t2.cell (p := ⟨b.CC, 0, none⟩) CC1 (fun e => e.elim cT' cU')
  have fc := env2.fC
  have T2 : Hid (Tch (fun x => x = b.TB ∨ x = b.UB ∨ x = b.CC) w W2) := T1.out.trans (t2.mono (fun x hx => hx.elim Or.inl (fun h => Or.inr (Or.inl h))))
  have ENV2 := hide env2
  have RS2 := hide rs2
  clear t2 env2 rs2 CC1 d5 d17 dW5 ENV1 RS1 T1
  go_wp2_with fail
  go_region
  go_wp2_with fail
  refine bodyPost_ret (results_none rfl _ _ _) rfl ?_
  refine ⟨rfl, (T2.out.setCell (p := ⟨b.CC, 0, none⟩) (Or.inr (Or.inr rfl)) _).drewN 1, (ENV2.out.set ⟨b.CC, 0, none⟩ _ cL' cW' cI' cTT').drewN 1, ?_, World.cell?_setCell_same _ _ _ ec⟩
  have t3 : Tch (fun x => x = b.CC) W2 (W2.setCell ⟨b.CC, 0, none⟩ (.slice (some ⟨b.TB, 0, none⟩) m (m + 1))).drew := ((Tch.refl (fun x => x = b.CC) W2).setCell (p := ⟨b.CC, 0, none⟩) rfl _).drewN 1
  exact ⟨fun i hi => t3.cell (RS2.out.t i hi) (fun e => cT' e.symm), fun i hi => t3.cell (RS2.out.s i hi) (fun e => cU' e.symm)⟩

end Co
end Go.Proofs.Ybulkaylc
