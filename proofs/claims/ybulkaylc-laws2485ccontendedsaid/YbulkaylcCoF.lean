import Derived.Test.YbulkaylcCoC
namespace Go.Proofs.Ybulkaylc
open Go.RowKit
set_option linter.unusedVariables false
namespace Co
open Sw Gr

set_option maxHeartbeats 2000000 in
set_option maxRecDepth 100000 in
theorem law_main (B f s : Int) (m o r : Nat) (w : World) (hb0 : 0 ≤ B) (hb1 : B ≤ 255) (hB : B % 64 = (m : Int)) (hm64 : m < 64) (hf0 : 0 ≤ f) (hf1 : f ≤ 255) (hf : f % ((m : Int) + 1) = (o : Int)) (ho : o < m + 1) (hs0 : 0 ≤ s) (hs1 : s ≤ 255) (hr : s % ((m : Int) + 1) = (r : Int)) (hrm : r < m + 1) :
    Calls Yba.prog 8 #[.int .u8 B, .int .u8 f, .int .u8 s] w fun e w' => e = .returned (.bool true) ∧ Below w.heap.size w w' := by
  have hm : m + 1 ≤ 1024 := by omega
  have hmI : (m : Int) < 64 := by omega
  have hoI : (o : Int) < (m : Int) + 1 := by omega
  have hrI : (r : Int) < (m : Int) + 1 := by omega
  have hne0 : ((m : Int) + 1 == 0) = false := by simp; omega
  obtain ⟨o1, hmk1, z1, e1⟩ := make87 m hm w
  obtain ⟨o2, hmk2, z2, e2⟩ := make37 m hm (w.alloc o1)
  have HF := hide (FillC.start w m o o1 o2 z1 z2 e1 e2)
  clear e1 e2
  go_enter Yba.func8, Yba.ntmps8
  go_wp2_with fail
  clear hmk1 hmk2
  go_loopw [12] (fun i wr => ∃ k : Nat, k ≤ m + 1 ∧ i = .int .i64 k ∧ FillC w wr m o k) (fun i _ => (m + 1) - (intOf i).toNat)
  case atStart => exact ⟨0, Nat.zero_le _, rfl, HF.out⟩
  case round =>
    obtain ⟨k, hk, rfl, fl⟩ := hrel
    by_cases hlt : k < m + 1
    · have FL := hide fl
      have hpl := P_lt ho hlt
      have hpm := P_mod ho hlt
      have hpI : ((P m o k : Nat) : Int) < (m : Int) + 1 := by omega
      obtain ⟨x, hx⟩ := fl.tT k hlt
      obtain ⟨y0, q0⟩ := fl.tU (P m o k * 9) (by omega)
      obtain ⟨y1, q1⟩ := fl.tU (P m o k * 9 + 1) (by omega)
      obtain ⟨y2, q2⟩ := fl.tU (P m o k * 9 + 2) (by omega)
      obtain ⟨y3, q3⟩ := fl.tU (P m o k * 9 + 3) (by omega)
      obtain ⟨y4, q4⟩ := fl.tU (P m o k * 9 + 4) (by omega)
      obtain ⟨y5, q5⟩ := fl.tU (P m o k * 9 + 5) (by omega)
      obtain ⟨y6, q6⟩ := fl.tU (P m o k * 9 + 6) (by omega)
      obtain ⟨y7, q7⟩ := fl.tU (P m o k * 9 + 7) (by omega)
      obtain ⟨y8, q8⟩ := fl.tU (P m o k * 9 + 8) (by omega)
      have fx := fl.fT k
      have g0 := fl.fU (P m o k * 9)
      have g1 := fl.fU (P m o k * 9 + 1)
      have g2 := fl.fU (P m o k * 9 + 2)
      have g3 := fl.fU (P m o k * 9 + 3)
      have g4 := fl.fU (P m o k * 9 + 4)
      have g5 := fl.fU (P m o k * 9 + 5)
      have g6 := fl.fU (P m o k * 9 + 6)
      have g7 := fl.fU (P m o k * 9 + 7)
      have g8 := fl.fU (P m o k * 9 + 8)
      have hlt' : (k : Int) < (m : Int) + 1 := by omega
      generalize hp : P m o k = p at *
      have HP := hide hp
      clear fl hp
      go_wp2_with fail
      go_roundw
      case rel =>
        refine ⟨k + 1, by omega, by go_num, ?_⟩
        have := FL.out.step ho hlt
        rw [HP.out] at this
        exact this
      case measure => simp [intOf]; omega
    · obtain rfl : k = m + 1 := by omega
      have FL := hide fl
      have hsz := fl.size
      have hpm := P_mod ho hrm
      have hpl := P_lt ho hrm
      have hpI : ((P m o r : Nat) : Int) < (m : Int) + 1 := by omega
      clear fl HF
      go_upto_region 13 with (fail)
      have PR := hide (preC FL.out ho)
      change Code.wp _ _ _ _ (atC wr w.heap.size m)
      clear hsz FL
      generalize atC wr w.heap.size m = W4 at *
      have a10 : W4.cell? ⟨w.heap.size + 2 + 1 + 1 + 1 + 1, 10, none⟩ = some (.slice (some ⟨w.heap.size + 2, 0, none⟩) 1 1) := PR.out.env.cL10
      have aT : W4.cell? ⟨w.heap.size + 2, 0, none⟩ = some (.slice (some ⟨w.heap.size, 0, none⟩) (m + 1) (m + 1)) := PR.out.env.cT
      go_quiet (fail)
      have ENV1 : Hid (EnvC (W4.drewN nq) (blkC w.heap.size) (m + 1)) := PR.out.env.drewN nq
      have RS1 : Hid (RowsC (W4.drewN nq) (blkC w.heap.size) (m + 1) (P m o) (S m o)) := PR.out.rows.drewN nq
      have C31 : Hid ((W4.drewN nq).cell? ⟨w.heap.size, P m o r * 9 + 3, none⟩ = some (.bool true)) := PR.out.c3 r hrm
      have CC1 : Hid ((W4.drewN nq).cell? ⟨w.heap.size + 3, 0, none⟩ = some (.slice (some ⟨w.heap.size + 1, 0, none⟩) (m + 1) (m + 1))) := PR.out.cC
      have SZ1 : Hid (w.heap.size + 2 ≤ (W4.drewN nq).heap.size) := PR.out.size
      have B1 : Hid (Below w.heap.size w (W4.drewN nq)) := ⟨PR.out.bel.os, PR.out.bel.tape, PR.out.bel.output, PR.out.bel.size, PR.out.bel.block⟩
      clear a10 aT PR
      generalize W4.drewN nq = W5 at *
      go_wp2_with fail
      have hun : Calls Yba.prog 11 #[.pointer (some ⟨w.heap.size + 2 + 1 + 1 + 1 + 1, 0, none⟩), .int .i64 0, .pointer (some ⟨w.heap.size, P m o r * 9, none⟩)] W5 fun e w' => e = .returned (.tuple #[]) ∧ Tch (fun x => x = w.heap.size + 1 ∨ x = w.heap.size ∨ x = w.heap.size + 3) W5 w' ∧ EnvC w' (blkC w.heap.size) (m + 1) ∧ RowsC w' (blkC w.heap.size) (m + 1) (put (put (P m o) r (P m o m)) m (P m o r)) (put (put (S m o) (P m o m) r) (P m o r) m) ∧
          w'.cell? ⟨w.heap.size + 3, 0, none⟩ = some (.slice (some ⟨w.heap.size + 1, 0, none⟩) m (m + 1)) :=
        untellC (blkC w.heap.size) m r (P m o) (S m o) W5 hm hrm (fun i hi => P_lt ho hi) (fun i j hi hj e => P_inj ho hi hj e) (S_P ho hrm) (by simp only [blkC]; omega) (by simp only [blkC]; omega) (by simp only [blkC]; omega) (by simp only [blkC]; omega) (by simp only [blkC]; omega) (by simp only [blkC]; omega) (by simp only [blkC]; omega) (by simp only [blkC]; omega) (by simp only [blkC]; omega) (by simp only [blkC]; omega) (by simp only [blkC]; omega) (by simp only [blkC]; omega) (by simp only [blkC]; omega) (by simp only [blkC]; omega) (by simp only [blkC]; omega) ENV1.out RS1.out C31.out CC1.out
      refine hun.mono ?_
      rintro e W6 ⟨rfl, t6, env6, rs6, cc6⟩
      have b17 : W6.cell? ⟨w.heap.size + 2 + 1 + 1 + 1 + 1, 17, none⟩ = some (.pointer (some ⟨w.heap.size + 5, 0, none⟩)) := env6.cL17
      have b5 : W6.cell? ⟨w.heap.size + 5, 5, none⟩ = some (.slice (some ⟨w.heap.size + 3, 0, none⟩) 1 1) := env6.cWI5
      have B6 : Hid (Below w.heap.size w W6) := ⟨t6.os.trans B1.out.os, t6.tape.trans B1.out.tape, t6.output.trans B1.out.output, Nat.le_trans B1.out.size t6.size, fun x hx => (t6.block x (by have := SZ1.out; omega) (by omega)).trans (B1.out.block x hx)⟩
      have RS6 := hide rs6
      have hmm : ((m : Int) != (m : Int)) = false := by simp
      clear t6 env6 rs6 hun ENV1 RS1 C31 CC1 SZ1 B1
      go_wp2_with fail
      clear b17 b5 cc6
      go_loopw [17] (fun ii wx => ∃ i : Nat, i ≤ m ∧ ii = .int .i64 i ∧ wx = W6) (fun ii _ => m - (intOf ii).toNat)
      case atStart => exact ⟨0, Nat.zero_le _, rfl, rfl⟩
      case round =>
        obtain ⟨i, him, rfl, rfl⟩ := hrel
        by_cases hi : i < m
        · have hiI : (i : Int) < (m : Int) := by omega
          have hiI1 : (i : Int) < (m : Int) + 1 := by omega
          have hpi := P_mod ho (show i < m + 1 by omega)
          have hpmm := P_mod ho (show m < m + 1 by omega)
          have hli := P_lt ho (show i < m + 1 by omega)
          have hlm := P_lt ho (show m < m + 1 by omega)
          have g0 := RS6.out.t i (by omega)
          rw [put_other _ _ (by omega : i ≠ m)] at g0
          change wr.cell? ⟨w.heap.size + 1, i, none⟩ = _ at g0
          by_cases hir : i = r
          · subst hir
            have heq : ((i : Int) == (i : Int)) = true := by simp
            have hii : ((i : Int) != (i : Int)) = false := by simp
            rw [put_same] at g0
            have gS := RS6.out.s (P m o m) hlm
            rw [put_other _ _ (fun e => by have := P_inj ho (by omega) (by omega) e; omega), put_same] at gS
            change wr.cell? ⟨w.heap.size, P m o m * 9 + 5, none⟩ = _ at gS
            have hlI : ((P m o m : Nat) : Int) < (m : Int) + 1 := by omega
            have hxx : (((P m o m : Nat) : Int) != ((P m o m : Nat) : Int)) = false := by simp
            generalize P m o m = pm at *
            go_wp2_with fail
            go_roundw
            case rel => exact ⟨i + 1, by omega, by go_num, trivial⟩
            case measure => simp [intOf]; omega
          · have heq : ((i : Int) == (r : Int)) = false := by simp; omega
            have hii : ((i : Int) != (i : Int)) = false := by simp
            rw [put_other _ _ hir] at g0
            have gS := RS6.out.s (P m o i) hli
            rw [put_other _ _ (fun e => hir (P_inj ho (by omega) hrm e)), put_other _ _ (fun e => by have := P_inj ho (by omega) (by omega) e; omega), S_P ho (by omega)] at gS
            change wr.cell? ⟨w.heap.size, P m o i * 9 + 5, none⟩ = _ at gS
            have hlI : ((P m o i : Nat) : Int) < (m : Int) + 1 := by omega
            have hxx : (((P m o i : Nat) : Int) != ((P m o i : Nat) : Int)) = false := by simp
            generalize P m o i = pi at *
            go_wp2_with fail
            go_roundw
            case rel => exact ⟨i + 1, by omega, by go_num, trivial⟩
            case measure => simp [intOf]; omega
        · have hge : ¬ (i : Int) < (m : Int) := by omega
          have gS := RS6.out.s (P m o r) hpl
          rw [put_same] at gS
          change wr.cell? ⟨w.heap.size, P m o r * 9 + 5, none⟩ = _ at gS
          have hfin : ((m : Int) == (m : Int)) = true := by simp
          go_wp2_with fail
          go_ret
          exact ⟨rfl, B6.out⟩

end Co
end Go.Proofs.Ybulkaylc
