import Derived.Test.YbulkaylcQuC
import Derived.BigRegion
namespace Go.Proofs.Ybulkaylc
open Go.RowKit
set_option linter.unusedVariables false
namespace Qu
open Sw Gr

set_option maxHeartbeats 4000000 in
set_option maxRecDepth 100000 in
theorem law_main (B s : Int) (m r : Nat) (w : World) (hb0 : 0 ≤ B) (hb1 : B ≤ 255) (hB : B % 64 = (m : Int)) (hm64 : m < 64) (hs0 : 0 ≤ s) (hs1 : s ≤ 255) (hr : s % ((m : Int) + 1) = (r : Int)) (hrm : r < m + 1) :
    Calls Yba.prog 7 #[.int .u8 B, .int .u8 s] w fun e w' => e = .returned (.bool true) ∧ Below w.heap.size w w' := by
  have hm : m + 1 ≤ 1024 := by omega
  have hmI : (m : Int) < 64 := by omega
  have hne0 : ((m : Int) + 1 == 0) = false := by simp; omega
  obtain ⟨o1, hmk1, z1, e1⟩ := make30 m hm w
  obtain ⟨o2, hmk2, z2, e2⟩ := make96 m hm (w.alloc o1)
  have HF := hide (FillQ.start w m o1 o2 z1 z2 e1 e2)
  clear e1 e2
  go_enter Yba.func7, Yba.ntmps7
  go_wp2_with fail
  clear hmk1 hmk2
  go_loopw [9] (fun i wr => ∃ k : Nat, k ≤ m + 1 ∧ i = .int .i64 k ∧ FillQ w wr m k) (fun i _ => (m + 1) - (intOf i).toNat)
  case atStart => exact ⟨0, Nat.zero_le _, rfl, HF.out⟩
  case round =>
    obtain ⟨k, hk, rfl, fl⟩ := hrel
    by_cases hlt : k < m + 1
    · have FL := hide fl
      have hsz := fl.size
      obtain ⟨y0, t0⟩ := fl.tT (k * 11) (by omega)
      obtain ⟨x0, g0⟩ := fl.tB (k * 2) (by omega)
      obtain ⟨x1, g1⟩ := fl.tB (k * 2 + 1) (by omega)
      have ft0 := fl.fT (k * 11)
      have fh0 := fl.fB (k * 2)
      have fh1 := fl.fB (k * 2 + 1)
      have hlt' : (k : Int) < (m : Int) + 1 := by omega
      have hnb : w.heap.size + 1 < w.heap.size + 2 + k := by omega
      have hnb0 : w.heap.size < w.heap.size + 2 + k := by omega
      generalize hNB : w.heap.size + 2 + k = NB at *
      have HNB := hide hNB
      clear fl hNB
      go_wp2_with fail
      go_roundw
      case rel =>
        refine ⟨k + 1, by omega, by go_num, ?_⟩
        have := FL.out.step hlt
        unfold rndQ at this
        rw [HNB.out] at this
        exact this
      case measure => simp [intOf]; omega
    · obtain rfl : k = m + 1 := by omega
      have FL := hide fl
      have hsz := fl.size
      clear fl HF
      generalize hQ : w.heap.size + 2 + (m + 1) = Q at *
      have HQ := hide hQ
      clear hQ
      go_upto_region 11 with (fail)
      have hz0 : (wr.alloc (.cells #[.int .i32 0, .int .i32 0] 98)).heap.size = Q + 1 := by simp [hsz]
      have hb0' := block_new wr (.cells #[.int .i32 0, .int .i32 0] 98)
      rw [hsz] at hb0'
      have tW : Hid (Tch (fun _ => False) wr (wr.alloc (.cells #[.int .i32 0, .int .i32 0] 98))) := (Tch.refl _ wr).alloc _
      have HB0 := hide hb0'
      clear hb0'
      obtain ⟨oA, hA⟩ := make37' m hm
      obtain ⟨oB, hBm⟩ := make57' m hm
      generalize wr.alloc (.cells #[.int .i32 0, .int .i32 0] 98) = W0 at *
      go_cut [11] (fun v wx => ∃ QQ, v = .pointer (some ⟨Q + 5, 0, none⟩) ∧ Laid W0 wx w.heap.size Q QQ m)
      case first =>
        go_region
        all_goals (go_wp2_with fail; go_meet)
        all_goals first
          | (refine ⟨Q + 1, rfl, ?_⟩; (with_reducible refine laid1 hz0 _ _ _ _ _ _ _ ?_ ?_ ?_) <;> rfl)
          | (refine ⟨Q + 2, rfl, ?_⟩; (with_reducible refine laid2 hz0 _ _ _ _ _ _ _ ?_ ?_ ?_) <;> rfl)
          | (refine ⟨Q + 3, rfl, ?_⟩; (with_reducible refine laid3 hz0 _ _ _ _ _ _ _ ?_ ?_ ?_) <;> rfl)
      case rest =>
        obtain ⟨QQ, rfl, ld⟩ := hcut
        have pr := preQ FL.out HQ.out tW.out HB0.out hz0 ld
        have LD := hide ld
        have PR := hide pr
        have a10 := pr.env.cL10
        have aT := pr.env.cT r hrm
        change wc.cell? ⟨Q + 5, 10, none⟩ = some (.slice (some ⟨w.heap.size, 0, none⟩) (m + 1) (m + 1)) at a10
        change wc.cell? ⟨w.heap.size, r * 11, none⟩ = some (.slice (some ⟨w.heap.size + 2 + r, 0, none⟩) 1 1) at aT
        have hrI : (r : Int) < (m : Int) + 1 := by omega
        clear ld pr hA hBm hz0 hsz FL HB0 tW
        go_wp2_with fail
        have hun : Calls Yba.prog 11 #[.pointer (some ⟨Q + 5, 0, none⟩), .int .i64 r, .pointer (some ⟨w.heap.size + 2 + r, 0, none⟩)] wc fun e w' => e = .returned (.tuple #[]) ∧ Tch (fun x => x = w.heap.size + 1 ∨ x = w.heap.size + 2 + m ∨ x = QQ) wc w' ∧ RowsQ w' (blkQ w.heap.size Q QQ) (m + 1) (put (fun i => i) r m) (put (fun i => i) m r) ∧
            w'.cell? ⟨QQ, 0, none⟩ = some (.slice (some ⟨w.heap.size + 1, 0, none⟩) m (m + 1)) ∧ (wc.cell? ⟨QQ, 1, none⟩ = some (.slice (some ⟨Q, 0, none⟩) 1 1) → w'.cell? ⟨QQ, 1, none⟩ = some (.slice (some ⟨Q, 0, none⟩) 1 1)) :=
          untellQ (blkQ w.heap.size Q QQ) m r (.slice (some ⟨Q, 0, none⟩) 1 1) wc hm hrm PR.out.ap PR.out.env PR.out.rows LD.out.qq
        refine hun.mono ?_
        rintro e W5 ⟨rfl, t5, rs5, cq5, cq15⟩
        have hq1 := cq15 LD.out.qq1
        have hQ' := HQ.out
        have hlo := LD.out.lo
        have hhi := LD.out.hi
        have nS : ∀ x, x ≠ w.heap.size + 1 → x ≠ w.heap.size + 2 + m → x ≠ QQ → ¬ (x = w.heap.size + 1 ∨ x = w.heap.size + 2 + m ∨ x = QQ) := fun x h1 h2 h3 e => by rcases e with e | e | e <;> contradiction
        have b10 := t5.cell (p := ⟨Q + 5, 10, none⟩) PR.out.env.cL10 (nS _ (by show Q + 5 ≠ _; omega) (by show Q + 5 ≠ _; omega) (by show Q + 5 ≠ _; omega))
        have b17 := t5.cell (p := ⟨Q + 5, 17, none⟩) LD.out.l17 (nS _ (by show Q + 5 ≠ _; omega) (by show Q + 5 ≠ _; omega) (by show Q + 5 ≠ _; omega))
        have b4 := t5.cell (p := ⟨Q + 4, 4, none⟩) LD.out.wi (nS _ (by show Q + 4 ≠ _; omega) (by show Q + 4 ≠ _; omega) (by show Q + 4 ≠ _; omega))
        have bT : ∀ i, i < m + 1 → W5.cell? ⟨w.heap.size, i * 11, none⟩ = some (.slice (some ⟨w.heap.size + 2 + i, 0, none⟩) 1 1) := fun i hi => t5.cell (PR.out.env.cT i hi) (nS _ (by show w.heap.size ≠ _; omega) (by show w.heap.size ≠ _; omega) (by show w.heap.size ≠ _; omega))
        have bo0 := t5.cell PR.out.o0 (nS _ (by show Q ≠ _; omega) (by show Q ≠ _; omega) (by show Q ≠ _; omega))
        have bo1 := t5.cell PR.out.o1 (nS _ (by show Q ≠ _; omega) (by show Q ≠ _; omega) (by show Q ≠ _; omega))
        have B5 : Hid (Below w.heap.size w W5) := ⟨t5.os.trans PR.out.bel.os, t5.tape.trans PR.out.bel.tape, t5.output.trans PR.out.bel.output, Nat.le_trans PR.out.bel.size t5.size, fun x hx => (t5.block x (by have := PR.out.size; omega) (nS x (by omega) (by omega) (by omega))).trans (PR.out.bel.block x hx)⟩
        have RS5 := hide rs5
        have BT := hide bT
        have hmm : ((m : Int) != (m : Int)) = false := by simp
        change W5.cell? ⟨Q + 5, 10, none⟩ = some (.slice (some ⟨w.heap.size, 0, none⟩) (m + 1) (m + 1)) at b10
        clear t5 rs5 cq15 nS bT hun a10 aT LD PR
        go_wp2_with fail
        go_loopw [13] (fun ii wx => ∃ i : Nat, i ≤ m ∧ ii = .int .i64 i ∧ wx = W5) (fun ii _ => m - (intOf ii).toNat)
        case atStart => exact ⟨0, Nat.zero_le _, rfl, rfl⟩
        case round =>
          obtain ⟨i, him, rfl, rfl⟩ := hrel
          by_cases hi : i < m
          · have hiI : (i : Int) < (m : Int) := by omega
            have hiI1 : (i : Int) < (m : Int) + 1 := by omega
            have g0 := RS5.out.r0 i (by omega)
            have g1 := RS5.out.r1 i (by omega)
            change wr.cell? ⟨w.heap.size + 1, i * 2, none⟩ = _ at g0
            change wr.cell? ⟨w.heap.size + 1, i * 2 + 1, none⟩ = _ at g1
            have h00 : ((0 : Int) != 0) = false := by simp
            by_cases hir : i = r
            · subst hir
              have heq : ((i : Int) == (i : Int)) = true := by simp
              have hii : ((i : Int) != (i : Int)) = false := by simp
              rw [put_same] at g0
              have gT := BT.out m (by omega)
              have gS := RS5.out.slot m (by omega)
              rw [put_same] at gS
              change wr.cell? ⟨w.heap.size + 2 + m, 5, none⟩ = _ at gS
              go_wp2_with fail
              go_roundw
              case rel => exact ⟨i + 1, by omega, by go_num, trivial⟩
              case measure => simp [intOf]; omega
            · have heq : ((i : Int) == (r : Int)) = false := by simp; omega
              have hii : ((i : Int) != (i : Int)) = false := by simp
              rw [put_other _ _ hir] at g0
              have gT := BT.out i (by omega)
              have gS := RS5.out.slot i (by omega)
              rw [put_other _ _ (by omega : i ≠ m)] at gS
              change wr.cell? ⟨w.heap.size + 2 + i, 5, none⟩ = _ at gS
              go_wp2_with fail
              go_roundw
              case rel => exact ⟨i + 1, by omega, by go_num, trivial⟩
              case measure => simp [intOf]; omega
          · have hge : ¬ (i : Int) < (m : Int) := by omega
            go_wp2_with fail
            go_ret
            exact ⟨rfl, B5.out⟩

end Qu
end Go.Proofs.Ybulkaylc
