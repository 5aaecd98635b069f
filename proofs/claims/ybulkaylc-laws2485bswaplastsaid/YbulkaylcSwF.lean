import Derived.Test.YbulkaylcSwE
import Derived.Test.YbulkaylcSwQ
namespace Go.Proofs.Ybulkaylc
open Go.RowKit
set_option linter.unusedVariables false
namespace Sw

set_option maxHeartbeats 1000000 in
set_option maxRecDepth 100000 in
theorem law_main (b off m cap j : Nat) (s : Int) (tg : Nat → Int) (w : World) (hm : m + 1 ≤ 1024) (hs0 : 0 ≤ s) (hs1 : s ≤ 65535) (hj : s % ((m : Int) + 1) = (j : Int)) (hjm : j < m + 1) (hb : b < w.heap.size)
    (hc : ∀ i, i < m + 1 → w.cell? ⟨b, off + i, none⟩ = some (.int .i32 (tg i))) :
    Calls Yba.prog 5 #[.slice (some ⟨b, off, none⟩) (m + 1) cap, .int .u16 s] w fun e w' => e = .returned (.bool true) ∧ Below w.heap.size w w' := by
  have h1 : ((m : Int) + 1 == 0) = false := by simp; omega
  have h2 : ¬ (1024 : Int) < (m : Int) + 1 := by omega
  obtain ⟨o1, hmk1, z1, e1⟩ := make30 m hm w
  obtain ⟨o2, hmk2, z2, e2⟩ := make82 m hm (w.alloc o1)
  have HF := hide (fill_start w m tg o1 o2 z1 z2 e1 e2)
  have HC := hide hc
  clear hc e1 e2
  go_enter Yba.func5, Yba.ntmps5
  go_wp2_with fail
  clear hmk1 hmk2
  go_loopw [9] (fun i wr => ∃ k : Nat, k ≤ m + 1 ∧ i = .int .i64 k ∧ Fill w wr m k tg) (fun i _ => (m + 1) - (intOf i).toNat)
  case atStart => exact ⟨0, Nat.zero_le _, rfl, HF.out⟩
  case round =>
    obtain ⟨k, hk, rfl, fl⟩ := hrel
    by_cases hlt : k < m + 1
    · have FL := hide fl
      have kc : wr.cell? ⟨b, off + k, none⟩ = some (.int .i32 (tg k)) := by rw [fl.bel.cell (p := ⟨b, off + k, none⟩) hb]; exact HC.out k hlt
      have hsz := fl.size
      obtain ⟨y0, t0⟩ := fl.tT (k * 11) (by omega)
      obtain ⟨y2, t2⟩ := fl.tT (k * 11 + 2) (by omega)
      obtain ⟨x0, g0⟩ := fl.tH (k * 6) (by omega)
      obtain ⟨x1, g1⟩ := fl.tH (k * 6 + 1) (by omega)
      obtain ⟨x2, g2⟩ := fl.tH (k * 6 + 2) (by omega)
      obtain ⟨x3, g3⟩ := fl.tH (k * 6 + 3) (by omega)
      obtain ⟨x4, g4⟩ := fl.tH (k * 6 + 4) (by omega)
      obtain ⟨x5, g5⟩ := fl.tH (k * 6 + 5) (by omega)
      have ft0 := fl.fT (k * 11)
      have ft2 := fl.fT (k * 11 + 2)
      have fh0 := fl.fH (k * 6)
      have fh1 := fl.fH (k * 6 + 1)
      have fh2 := fl.fH (k * 6 + 2)
      have fh3 := fl.fH (k * 6 + 3)
      have fh4 := fl.fH (k * 6 + 4)
      have fh5 := fl.fH (k * 6 + 5)
      have hlt' : (k : Int) < (m : Int) + 1 := by omega
      clear fl
      go_upto_region 11 with (fail)
      generalize hW2 : (((((wr.setCell ⟨w.heap.size + 1, k * 6, none⟩ (.int .i32 k)).setCell ⟨w.heap.size + 1, k * 6 + 1, none⟩ (.int .i32 0)).setCell ⟨w.heap.size + 1, k * 6 + 2, none⟩ (.int .i32 (tg k))).setCell ⟨w.heap.size + 1, k * 6 + 3, none⟩ (.int .u8 0)).setCell ⟨w.heap.size + 1, k * 6 + 4, none⟩ (.int .u8 3)).setCell ⟨w.heap.size + 1, k * 6 + 5, none⟩ (.bool false) = W2
      have e6 : W2 = six wr (w.heap.size + 1) (k * 6) (.int .i32 k) (.int .i32 0) (.int .i32 (tg k)) (.int .u8 0) (.int .u8 3) (.bool false) := hW2.symm
      have hz2 : W2.heap.size = w.heap.size + 2 + k := by rw [e6]; simp [six, World.setCell, hsz]
      have p0 : W2.cell? ⟨w.heap.size, k * 11, none⟩ = some y0 := by rw [e6, six_out _ _ _ _ _ _ _ _ _ _ (fun e _ => by exfalso; have : w.heap.size = w.heap.size + 1 := e; omega)]; exact t0
      have p2 : W2.cell? ⟨w.heap.size, k * 11 + 2, none⟩ = some y2 := by rw [e6, six_out _ _ _ _ _ _ _ _ _ _ (fun e _ => by exfalso; have : w.heap.size = w.heap.size + 1 := e; omega)]; exact t2
      have pf0 : W2.frozen? ⟨w.heap.size, k * 11, none⟩ = false := by rw [e6, six_frozen]; exact ft0
      have pf2 : W2.frozen? ⟨w.heap.size, k * 11 + 2, none⟩ = false := by rw [e6, six_frozen]; exact ft2
      have E6 := hide e6
      have hnb : w.heap.size < w.heap.size + 2 + k := by omega
      generalize hNB : w.heap.size + 2 + k = NB at *
      have HNB := hide hNB
      clear hNB
      clear e6 hW2 t0 t2 g0 g1 g2 g3 g4 g5 ft0 ft2 fh0 fh1 fh2 fh3 fh4 fh5 hsz kc
      go_wp2_with fail
      go_roundw
      case rel =>
        refine ⟨k + 1, by omega, by go_num, ?_⟩
        have := FL.out.step hlt
        unfold rnd rnd0 at this
        rw [E6.out, ← HNB.out]
        exact this
      case measure => simp [intOf]; omega
    · obtain rfl : k = m + 1 := by omega
      have hsz := fl.size
      obtain ⟨o3, hmk3, z3, e3⟩ := make82 m hm wr
      have FL := hide fl
      generalize hQ : w.heap.size + 2 + (m + 1) = Q at *
      have hqb : w.heap.size + 1 < Q := by omega
      have bQ : (wr.alloc o3).heap[Q]? = some o3 := by rw [← hsz]; exact block_new _ _
      rw [e3] at bQ
      have tH3 : There (wr.alloc o3) (w.heap.size + 1) ((m + 1) * 6) := fl.tH.alloc _
      have hold : ∀ p : Addr, p.block < Q → (wr.alloc o3).cell? p = wr.cell? p := fun p hp => World.cell?_of_block (Below.heap_alloc _ _ _ (by rw [hsz]; exact hp))
      rw [e3] at tH3 hold
      obtain ⟨W3, hcp, t3, hs3, hro⟩ := copy_rows (wr.alloc (.cells (madeCells z3 ((m + 1) * 6)) 84)) (w.heap.size + 1) Q (m + 1) (m + 1) (m + 1) (by omega) tH3 (fun j v hj hv => fl.one j v hj (by rw [← hold ⟨w.heap.size + 1, j, none⟩ (by show w.heap.size + 1 < Q; omega)]; exact hv)) (there_made bQ) (free_made bQ)
      rw [e3] at hmk3
      have hz3 : W3.heap.size = Q + 1 := by rw [hs3]; simp [hsz]
      have PR := hide (fl.pre hQ hsz hz3 t3 hro)
      have HQ := hide hQ
      clear hro t3 hQ hold tH3 bQ e3 fl hs3
      go_upto_region 16 with (fail)
      have pr := PR.out
      have cTj : (atRem W3 w.heap.size Q m).cell? ⟨w.heap.size, j * 11, none⟩ = some (.slice (some ⟨w.heap.size + 2 + j, 0, none⟩) 1 1) := pr.env.cT j hjm
      change Code.wp _ _ _ _ (atRem W3 w.heap.size Q m)
      clear hmk3 hcp hz3 hsz
      generalize atRem W3 w.heap.size Q m = W4 at *
      go_wp2_with fail
      have hrem : Calls Yba.prog 10 #[.pointer (some ⟨Q + 1 + 1 + 1 + 1 + 1, 0, none⟩), .pointer (some ⟨w.heap.size + 2 + j, 0, none⟩)] W4 fun e w' => e = .returned (.tuple #[]) ∧ Tch (fun k => k = (blk w.heap.size Q).H ∨ k = (blk w.heap.size Q).U m ∨ k = (blk w.heap.size Q).HH) W4 w' ∧ Env w' (blk w.heap.size Q) (m + 1) (fun _ => 3) (.slice none 0 0) 0 1 ∧ Rws w' (blk w.heap.size Q) (m + 1) 0 (put (fun i => i) j m) (put tg j (tg m)) (put (fun _ => 3) j 3) (put (fun i => (i : Int)) m j) ∧ w'.cell? ⟨Q + 1 + 1 + 1, 1, none⟩ = some (.slice (some ⟨w.heap.size + 1, 0, none⟩) m (m + 1)) :=
        removeNil (blk w.heap.size Q) m j j (fun _ => 3) 0 1 0 (fun i => i) tg (fun _ => 3) (fun i => (i : Int)) W4 hm hjm rfl hjm (by omega) (blk_apart _ _ _ HQ.out) pr.env pr.rws pr.cHH pr.fHH
      refine hrem.mono ?_
      rintro e W5 ⟨rfl, t5, env5, rs5, cHH5⟩
      have yL : W5.cell? ⟨Q + 1 + 1 + 1 + 1 + 1, 17, none⟩ = some (.pointer (some ⟨Q + 1 + 1 + 1 + 1, 0, none⟩)) := env5.cL17
      have yW : W5.cell? ⟨Q + 1 + 1 + 1 + 1, 2, none⟩ = some (.slice (some ⟨Q + 1 + 1 + 1, 0, none⟩) 2 2) := env5.cWI2
      have HQ' := HQ.out
      have old5 : ∀ jj, jj < (m + 1) * 6 → W5.cell? ⟨Q, jj, none⟩ = W4.cell? ⟨w.heap.size + 1, jj, none⟩ := fun jj hj5 => by
        have hlt5 : Q < W4.heap.size := by rw [pr.size]; omega
        rw [World.cell?_of_block (w := W4) (t5.block Q hlt5 (fun e => by rcases e with e | e | e <;> simp only [blk] at e <;> omega))]
        exact pr.old jj hj5
      have RSo := hide pr.rws
      have B5 : Below w.heap.size w W5 := ⟨t5.os.trans pr.bel.os, t5.tape.trans pr.bel.tape, t5.output.trans pr.bel.output, Nat.le_trans pr.bel.size t5.size, fun k hk5 => (t5.block k (by rw [pr.size]; omega) (fun e => by rcases e with e | e | e <;> simp only [blk] at e <;> omega)).trans (pr.bel.block k hk5)⟩
      have OLD := hide old5
      have ENV5 := hide env5
      have RS5 := hide rs5
      have HB5 := hide B5
      clear t5 env5 rs5 old5 B5 pr PR cTj hrem HQ'
      go_wp2_with fail
      clear yL yW cHH5
      go_loopw [13] (fun i wx => ∃ k : Nat, k ≤ m ∧ i = .int .i64 k ∧ Tch (fun _ => False) W5 wx) (fun i _ => m - (intOf i).toNat)
      case atStart => exact ⟨0, Nat.zero_le _, rfl, Tch.refl _ _⟩
      case round =>
        obtain ⟨k, hkm, rfl, tx5⟩ := hrel
        have TX := hide tx5
        by_cases hlt2 : k < m
        · have oldAt : ∀ i c v, i < m + 1 → c < 6 → W4.cell? ⟨w.heap.size + 1, i * 6 + c, none⟩ = some v → wr.cell? ⟨Q, i * 6 + c, none⟩ = some v := fun i c v hi hc6 hv => tx5.cell ((OLD.out (i * 6 + c) (by omega)).trans hv) (fun e => e)
          have nf : ∀ {p : Addr} {v : Value}, W5.cell? p = some v → wr.cell? p = some v := fun hv => tx5.cell hv (fun e => e)
          have hkI : (k : Int) < (m : Int) := by omega
          have hkI1 : (k : Int) < (m : Int) + 1 := by omega
          have hmI1 : (m : Int) < (m : Int) + 1 := by omega
          by_cases hkj : k = j
          · subst hkj
            have heq : ((k : Int) == (k : Int)) = true := by simp
            have p0 := oldAt k 0 _ (by omega) (by omega) (RSo.out.r0 k (by omega))
            have p1 := oldAt k 1 _ (by omega) (by omega) (RSo.out.r1 k (by omega))
            have p2 := oldAt k 2 _ (by omega) (by omega) (RSo.out.r2 k (by omega))
            have p3 := oldAt k 3 _ (by omega) (by omega) (RSo.out.r3 k (by omega))
            have p4 := oldAt k 4 _ (by omega) (by omega) (RSo.out.r4 k (by omega))
            have p5 := oldAt k 5 _ (by omega) (by omega) (RSo.out.r5 k (by omega))
            have q0 := oldAt m 0 _ (by omega) (by omega) (RSo.out.r0 m (by omega))
            have q1 := oldAt m 1 _ (by omega) (by omega) (RSo.out.r1 m (by omega))
            have q2 := oldAt m 2 _ (by omega) (by omega) (RSo.out.r2 m (by omega))
            have q3 := oldAt m 3 _ (by omega) (by omega) (RSo.out.r3 m (by omega))
            have q4 := oldAt m 4 _ (by omega) (by omega) (RSo.out.r4 m (by omega))
            have q5 := oldAt m 5 _ (by omega) (by omega) (RSo.out.r5 m (by omega))
            have g0 := nf (RS5.out.r0 k (by omega))
            have g1 := nf (RS5.out.r1 k (by omega))
            have g2 := nf (RS5.out.r2 k (by omega))
            have g3 := nf (RS5.out.r3 k (by omega))
            have g4 := nf (RS5.out.r4 k (by omega))
            have g5 := nf (RS5.out.r5 k (by omega))
            rw [put_same] at g0 g2 g4
            have cT := nf (ENV5.out.cT m (by omega))
            have cS := nf (RS5.out.slot m (by omega))
            rw [put_same] at cS
            change wr.cell? ⟨Q, k * 6, none⟩ = _ at p0
            change wr.cell? ⟨Q, m * 6, none⟩ = _ at q0
            change wr.cell? ⟨w.heap.size + 1, k * 6, none⟩ = _ at g0
            change wr.cell? ⟨w.heap.size + 1, k * 6 + 1, none⟩ = _ at g1
            change wr.cell? ⟨w.heap.size + 1, k * 6 + 2, none⟩ = _ at g2
            change wr.cell? ⟨w.heap.size + 1, k * 6 + 3, none⟩ = _ at g3
            change wr.cell? ⟨w.heap.size + 1, k * 6 + 4, none⟩ = _ at g4
            change wr.cell? ⟨w.heap.size + 1, k * 6 + 5, none⟩ = _ at g5
            change wr.cell? ⟨w.heap.size, m * 11, none⟩ = some (.slice (some ⟨w.heap.size + 2 + m, 0, none⟩) 1 1) at cT
            change wr.cell? ⟨w.heap.size + 2 + m, 6, none⟩ = _ at cS
            have l1 : w.heap.size + 1 < wr.heap.size := lt_of_cell (p := ⟨w.heap.size + 1, k * 6, none⟩) g0
            have l2 : w.heap.size < wr.heap.size := by omega
            have l3 : Q < wr.heap.size := lt_of_cell (p := ⟨Q, k * 6, none⟩) p0
            have l4 : w.heap.size + 2 + m < wr.heap.size := lt_of_cell (p := ⟨w.heap.size + 2 + m, 6, none⟩) cS
            have hq84 := eq84
            clear oldAt nf tx5
            go_wp2_with fail
            go_quiet (fail)
            go_wp2_with fail
            go_roundw
            case rel => exact ⟨k + 1, by omega, by go_num, (TX.out.alloc _).drewN nq⟩
            case measure => simp [intOf]; omega
          · have hne : ((k : Int) == (j : Int)) = false := by simp; omega
            have p0 := oldAt k 0 _ (by omega) (by omega) (RSo.out.r0 k (by omega))
            have p1 := oldAt k 1 _ (by omega) (by omega) (RSo.out.r1 k (by omega))
            have p2 := oldAt k 2 _ (by omega) (by omega) (RSo.out.r2 k (by omega))
            have p3 := oldAt k 3 _ (by omega) (by omega) (RSo.out.r3 k (by omega))
            have p4 := oldAt k 4 _ (by omega) (by omega) (RSo.out.r4 k (by omega))
            have p5 := oldAt k 5 _ (by omega) (by omega) (RSo.out.r5 k (by omega))
            have g0 := nf (RS5.out.r0 k (by omega))
            have g1 := nf (RS5.out.r1 k (by omega))
            have g2 := nf (RS5.out.r2 k (by omega))
            have g3 := nf (RS5.out.r3 k (by omega))
            have g4 := nf (RS5.out.r4 k (by omega))
            have g5 := nf (RS5.out.r5 k (by omega))
            rw [put_other _ _ hkj] at g0 g2 g4
            have cT := nf (ENV5.out.cT k (by omega))
            have cS := nf (RS5.out.slot k (by omega))
            rw [put_other _ _ (by omega : k ≠ m)] at cS
            change wr.cell? ⟨Q, k * 6, none⟩ = _ at p0
            change wr.cell? ⟨w.heap.size + 1, k * 6, none⟩ = _ at g0
            change wr.cell? ⟨w.heap.size + 1, k * 6 + 1, none⟩ = _ at g1
            change wr.cell? ⟨w.heap.size + 1, k * 6 + 2, none⟩ = _ at g2
            change wr.cell? ⟨w.heap.size + 1, k * 6 + 3, none⟩ = _ at g3
            change wr.cell? ⟨w.heap.size + 1, k * 6 + 4, none⟩ = _ at g4
            change wr.cell? ⟨w.heap.size + 1, k * 6 + 5, none⟩ = _ at g5
            change wr.cell? ⟨w.heap.size, k * 11, none⟩ = some (.slice (some ⟨w.heap.size + 2 + k, 0, none⟩) 1 1) at cT
            change wr.cell? ⟨w.heap.size + 2 + k, 6, none⟩ = _ at cS
            have l1 : w.heap.size + 1 < wr.heap.size := lt_of_cell (p := ⟨w.heap.size + 1, k * 6, none⟩) g0
            have l2 : w.heap.size < wr.heap.size := by omega
            have l3 : Q < wr.heap.size := lt_of_cell (p := ⟨Q, k * 6, none⟩) p0
            have l4 : w.heap.size + 2 + k < wr.heap.size := lt_of_cell (p := ⟨w.heap.size + 2 + k, 6, none⟩) cS
            have hq84 := eq84
            clear oldAt nf tx5
            go_wp2_with fail
            go_quiet (fail)
            go_wp2_with fail
            go_roundw
            case rel => exact ⟨k + 1, by omega, by go_num, (TX.out.alloc _).drewN nq⟩
            case measure => simp [intOf]; omega
        · clear tx5
          have hge : ¬ (k : Int) < (m : Int) := by omega
          go_wp2_with fail
          go_ret
          have t6 := TX.out
          have b5 := HB5.out
          exact ⟨rfl, ⟨t6.os.trans b5.os, t6.tape.trans b5.tape, t6.output.trans b5.output, Nat.le_trans b5.size t6.size, fun x hx => (t6.block x (Nat.lt_of_lt_of_le hx b5.size) (fun e => e)).trans (b5.block x hx)⟩⟩

end Sw
end Go.Proofs.Ybulkaylc
