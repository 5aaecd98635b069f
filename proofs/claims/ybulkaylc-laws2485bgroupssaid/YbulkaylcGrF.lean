import Derived.Test.YbulkaylcGrD
namespace Go.Proofs.Ybulkaylc
open Go.RowKit
set_option linter.unusedVariables false
namespace Gr
open Sw

set_option maxHeartbeats 1000000 in
set_option maxRecDepth 100000 in
theorem law_main (b off m cap j : Nat) (s : Int) (B : Nat → Int) (g : Nat → Nat) (w : World) (hm : m + 1 ≤ 1024) (hs0 : 0 ≤ s) (hs1 : s ≤ 65535) (hj : s % ((m : Int) + 1) = (j : Int)) (hjm : j < m + 1) (hb : b < w.heap.size)
    (hg5 : ∀ i, i < m + 1 → g i < 5) (hB0 : ∀ i, i < m + 1 → 0 ≤ B i ∧ B i ≤ 255 ∧ B i % 5 = (g i : Int))
    (hc : ∀ i, i < m + 1 → w.cell? ⟨b, off + i, none⟩ = some (.int .u8 (B i))) :
    Calls Yba.prog 6 #[.slice (some ⟨b, off, none⟩) (m + 1) cap, .int .u16 s] w fun e w' => e = .returned (.bool true) ∧ Below w.heap.size w w' := by
  have h1 : ((m : Int) + 1 == 0) = false := by simp; omega
  have h2 : ¬ (1024 : Int) < (m : Int) + 1 := by omega
  obtain ⟨o1, hmk1, z1, e1⟩ := make37 m hm w
  obtain ⟨o2, hmk2, z2, e2⟩ := make82z m hm (w.alloc o1)
  have HF := hide (start w m g o1 o2 z1 z2 e1 e2)
  have HC := hide hc
  have HG := hide hg5
  have HB := hide hB0
  clear hc e1 e2 hg5 hB0
  go_enter Yba.func6, Yba.ntmps6
  go_wp2_with fail
  clear hmk1 hmk2
  go_loopw [7, 9] (fun hs kk wr => ∃ (k c : Nat) (tx pos E : Nat → Nat), k ≤ 5 ∧ kk = .int .i64 k ∧ hs = .slice (some ⟨w.heap.size + 1, 0, none⟩) c (m + 1) ∧ Fil (m + 1) g c k 0 tx pos E ∧ FilW w wr (m + 1) c g tx pos E) (fun _ kk _ => 5 - (intOf kk).toNat)
  case atStart => exact ⟨0, 0, fun _ => 0, fun _ => 0, fun _ => 0, by omega, rfl, rfl, Fil.start _ _ _ _ _, HF.out _⟩
  case round =>
    obtain ⟨k, c, tx, pos, E, hk5, rfl, rfl, fl, fw⟩ := hrel
    have FL := hide fl
    have FW := hide fw
    clear fl fw
    by_cases hk : k < 5
    · have hk' : (k : Int) < 5 := by omega
      go_wp2_with fail
      clear HF
      go_loopw [7, 10] (fun hs ii wx => ∃ (i c' : Nat) (tx' pos' : Nat → Nat), i ≤ m + 1 ∧ ii = .int .i64 i ∧ hs = .slice (some ⟨w.heap.size + 1, 0, none⟩) c' (m + 1) ∧ Fil (m + 1) g c' k i tx' pos' E ∧ FilW w wx (m + 1) c' g tx' pos' E) (fun _ ii _ => (m + 1) - (intOf ii).toNat)
      case atStart => exact ⟨0, c, tx, pos, by omega, rfl, rfl, FL.out, FW.out⟩
      case round =>
        obtain ⟨i, c', tx', pos', him, rfl, rfl, fl, fw⟩ := hrel
        by_cases hi : i < m + 1
        · have hi' : (i : Int) < (m : Int) + 1 := by omega
          have kc : wr.cell? ⟨b, off + i, none⟩ = some (.int .u8 (B i)) := by rw [fw.bel.cell (p := ⟨b, off + i, none⟩) hb]; exact HC.out i hi
          obtain ⟨y0, y1, y2⟩ := HB.out i hi
          by_cases hgk : g i = k
          · have heq : ((g i : Int) == (k : Int)) = true := by simp [hgk]
            have hc' : c' < m + 1 := by
              have := (fl.take hi hgk).le
              omega
            have hcb : (c' : Int) < 1024 := by omega
            obtain ⟨x, hx⟩ := fw.tP i hi
            have hfx := fw.fP i
            have hsz := fw.size
            have hib : (i : Int) < 1024 := by omega
            have HFW := hide fw
            have HFL := hide fl
            clear fw fl
            go_upto_region 15 with (fail)
            have E2 := hide (rfl : wr.setCell ⟨w.heap.size, i, none⟩ (.int .i32 c') = wr.setCell ⟨w.heap.size, i, none⟩ (.int .i32 c'))
            have hz2 : (wr.setCell ⟨w.heap.size, i, none⟩ (.int .i32 c')).heap.size = w.heap.size + 3 + c' := by simp [World.setCell, hsz]
            have tH2 := HFW.out.tH.set ⟨w.heap.size, i, none⟩ (.int .i32 c')
            have fH2 := HFW.out.fH.set ⟨w.heap.size, i, none⟩ (.int .i32 c')
            clear hx hfx hsz kc
            have hst : stp wr w.heap.size i c' k = six ((wr.setCell ⟨w.heap.size, i, none⟩ (.int .i32 c')).alloc (.cells #[.int .i32 i, .int .i32 (-1), .int .i32 0, .int .u8 0, .int .u8 ((k : Nat) + 1), .bool false] 84)) (w.heap.size + 1) (c' * 6) (.int .i32 i) (.int .i32 (-1)) (.int .i32 0) (.int .u8 0) (.int .u8 ((k : Nat) + 1)) (.bool false) := rfl
            have HST := hide hst
            clear hst
            generalize wr.setCell ⟨w.heap.size, i, none⟩ (.int .i32 c') = W2 at *
            generalize w.heap.size + 3 + c' = NB at *
            have bT : (W2.alloc (.cells #[.int .i32 i, .int .i32 (-1), .int .i32 0, .int .u8 0, .int .u8 ((k : Nat) + 1), .bool false] 84)).heap[NB]? = some (.cells #[.int .i32 i, .int .i32 (-1), .int .i32 0, .int .u8 0, .int .u8 ((k : Nat) + 1), .bool false] 84) := by rw [← hz2]; exact block_new _ _
            obtain ⟨x0, hx0⟩ := tH2 0 (by omega)
            have happ := fun ty => app82 (W2.alloc (.cells #[.int .i32 i, .int .i32 (-1), .int .i32 0, .int .u8 0, .int .u8 ((k : Nat) + 1), .bool false] 84)) (w.heap.size + 1) c' (m + 1) NB i k hc' (tH2.alloc _) (Free.alloc fH2 (lt_of_cell (p := ⟨w.heap.size + 1, 0, none⟩) hx0) _) bT ty
            have HAPP := hide happ
            clear happ tH2 fH2 bT hx0 E2
            go_wp2_with (first | (at_builtin; refine Lib.wpList_append_run _ rfl _ _ 82 82 rfl _ _ rfl rfl _ _ (HAPP.out _) ?_) | fail)
            go_roundw
            case rel => 
              refine ⟨i + 1, c' + 1, put tx' c' i, put pos' i c', by omega, by go_num, rfl, HFL.out.take hi hgk, ?_⟩
              rw [← HST.out]
              exact HFW.out.take hi hc' hgk (fun p hp e => by have := (HFL.out.row p hp).2.2; rw [e] at this; omega)
            case measure => simp [intOf]; omega
          · have heq : ((g i : Int) == (k : Int)) = false := by simp; omega
            have HFW := hide fw
            have HFL := hide fl
            clear fw fl
            go_wp2_with fail
            go_roundw
            case rel => exact ⟨i + 1, c', tx', pos', by omega, by go_num, rfl, HFL.out.skip hgk, HFW.out⟩
            case measure => simp [intOf]; omega
        · obtain rfl : i = m + 1 := by omega
          have hcb : (c' : Int) ≤ 1024 := by have := fl.le; omega
          have kE : wr.cell? ⟨w.heap.size + 1 + 1, k, none⟩ = some (.int .i32 (E k)) := fw.cE k hk
          have fE : wr.frozen? ⟨w.heap.size + 1 + 1, k, none⟩ = false := fw.fE k
          have HFW := hide fw
          have HFL := hide fl
          clear fw fl
          go_wp2_with fail
          go_roundw
          case rel => exact ⟨k + 1, c', tx', pos', put E k c', by omega, by go_num, rfl, HFL.out.next, HFW.out.fin hk⟩
          case measure => simp [intOf]; omega
    · obtain rfl : k = 5 := by omega
      obtain ⟨rfl, hG⟩ := FL.out.good HG.out
      obtain ⟨WF, hWF⟩ : ∃ x, x = wr := ⟨wr, rfl⟩
      subst hWF
      obtain ⟨o3, hmk3, z3, e3⟩ := make30 m hm WF
      have hzF := FW.out.size
      have HT := hide (FT.start WF m g pos o3 z3 e3)
      have GG := hide hG
      have cPos : Hid (∀ t, t < m + 1 → WF.cell? ⟨w.heap.size, t, none⟩ = some (.int .i32 (pos t))) := fun t ht => by
        have h := FW.out.cP (pos t) (hG.all t ht).1
        rwa [(hG.all t ht).2] at h
      have hbT : w.heap.size + 2 < WF.heap.size := by omega
      have HZF := hide hzF
      clear FL hG HF e3 hzF
      go_wp2_with fail
      clear hmk3
      go_loopw [12] (fun ii wr => ∃ i : Nat, i ≤ m + 1 ∧ ii = .int .i64 i ∧ FT WF wr (m + 1) i g pos) (fun ii _ => (m + 1) - (intOf ii).toNat)
      case atStart => exact ⟨0, by omega, rfl, HT.out⟩
      case round =>
        obtain ⟨i, him, rfl, ft⟩ := hrel
        have FTH := hide ft
        by_cases hi : i < m + 1
        · have hi' : (i : Int) < (m : Int) + 1 := by omega
          have kc : wr.cell? ⟨b, off + i, none⟩ = some (.int .u8 (B i)) := by rw [ft.bel.cell (p := ⟨b, off + i, none⟩) (by show b < _; omega), FW.out.bel.cell (p := ⟨b, off + i, none⟩) hb]; exact HC.out i hi
          have kp : wr.cell? ⟨w.heap.size, i, none⟩ = some (.int .i32 (pos i)) := by rw [ft.bel.cell (p := ⟨w.heap.size, i, none⟩) (by show w.heap.size < _; omega)]; exact cPos.out i hi
          obtain ⟨y0, y1, y2⟩ := HB.out i hi
          have hgi : (g i : Int) < 5 := by have := HG.out i hi; omega
          obtain ⟨q0, t0⟩ := ft.tT (i * 11) (by omega)
          obtain ⟨q2, t2⟩ := ft.tT (i * 11 + 2) (by omega)
          have ft0 := ft.fT (i * 11)
          have ft2 := ft.fT (i * 11 + 2)
          have hsz := ft.size
          clear ft
          generalize hTB : WF.heap.size = TB at *
          have HTB := hide hTB
          have hnb : TB < TB + 1 + i := by omega
          generalize hNB : TB + 1 + i = NB at *
          have HNB := hide hNB
          clear hTB hNB
          go_wp2_with fail
          go_roundw
          case rel =>
            refine ⟨i + 1, by omega, by go_num, ?_⟩
            have := FTH.out.step hi
            unfold rndT at this
            rw [HTB.out, HNB.out] at this
            exact this
          case measure => simp [intOf]; omega
        · obtain rfl : i = m + 1 := by omega
          have kc : wr.cell? ⟨b, off + j, none⟩ = some (.int .u8 (B j)) := by rw [ft.bel.cell (p := ⟨b, off + j, none⟩) (by show b < _; omega), FW.out.bel.cell (p := ⟨b, off + j, none⟩) hb]; exact HC.out j hjm
          obtain ⟨y0, y1, y2⟩ := HB.out j hjm
          have hgj : (g j : Int) < 5 := by have := HG.out j hjm; omega
          have ke : ∀ q, q < 5 → wr.cell? ⟨w.heap.size + 1 + 1, q, none⟩ = some (.int .i32 (E q)) := fun q hq => by rw [ft.bel.cell (p := ⟨w.heap.size + 1 + 1, q, none⟩) (by show w.heap.size + 1 + 1 < _; omega)]; exact FW.out.cE q hq
          have k0 := ke 0 (by omega)
          have k1 := ke 1 (by omega)
          have k2 := ke 2 (by omega)
          have k3 := ke 3 (by omega)
          have k4 := ke 4 (by omega)
          have hsz := ft.size
          clear ft ke
          have hjI : (j : Int) < (m : Int) + 1 := by omega
          generalize hTB : WF.heap.size = TB at *
          have HTB := hide hTB
          generalize hQ : TB + 1 + (m + 1) = Q at *
          have HQ := hide hQ
          have hlt : w.heap.size + 1 + 1 < Q := by omega
          have hlt1 : w.heap.size + 1 < Q := by omega
          have hlt2 : TB < Q := by omega
          clear hTB hQ
          go_upto_region 27 with (fail)
          have W6d := hide (rfl : wr.alloc (.cells #[.int .i32 (E 0), .int .i32 (E 1), .int .i32 (E 2), .int .i32 (E 3), .int .i32 (E 4)] 94) = wr.alloc (.cells #[.int .i32 (E 0), .int .i32 (E 1), .int .i32 (E 2), .int .i32 (E 3), .int .i32 (E 4)] 94))
          have hz6 : (wr.alloc (.cells #[.int .i32 (E 0), .int .i32 (E 1), .int .i32 (E 2), .int .i32 (E 3), .int .i32 (E 4)] 94)).heap.size = Q + 1 := by simp [hsz]
          have al : ∀ (X : World) (o : Obj) (p : Addr) (v : Value), X.cell? p = some v → (X.alloc o).cell? p = some v := fun X o p v h => by
            rw [World.cell?_of_block (w := X) (Below.heap_alloc _ _ _ (lt_of_cell h))]; exact h
          have aw : ∀ q v, wr.cell? ⟨w.heap.size + 1 + 1, q, none⟩ = some v → ((((wr.alloc (.cells #[.int .i32 (E 0), .int .i32 (E 1), .int .i32 (E 2), .int .i32 (E 3), .int .i32 (E 4)] 94)).alloc (.cells #[.int .i32 1] 21)).alloc (.cells #[.int .i32 (-1), .int .i32 0] 21)).alloc (.cells #[.slice none 0 0, .slice (some ⟨w.heap.size + 1, 0, none⟩) (m + 1) (m + 1)] 82)).cell? ⟨w.heap.size + 1 + 1, q, none⟩ = some v := fun q v h =>
            al _ _ _ _ (al _ _ _ _ (al _ _ _ _ (al _ _ _ _ h)))
          have a0 := aw _ _ k0
          have a1 := aw _ _ k1
          have a2 := aw _ _ k2
          have a3 := aw _ _ k3
          have a4 := aw _ _ k4
          have W6e : Hid (∃ W6, W6 = wr.alloc (.cells #[.int .i32 (E 0), .int .i32 (E 1), .int .i32 (E 2), .int .i32 (E 3), .int .i32 (E 4)] 94)) := ⟨_, rfl⟩
          generalize hW6 : wr.alloc (.cells #[.int .i32 (E 0), .int .i32 (E 1), .int .i32 (E 2), .int .i32 (E 3), .int .i32 (E 4)] 94) = W6 at *
          have HW6 := hide hW6
          clear hW6 W6d W6e al aw k0 k1 k2 k3 k4 kc hsz
          go_upto_region 28 with (fail)
          have PR := hide (preG FW.out FTH.out HTB.out HQ.out HW6.out)
          have hN2 : w.heap.size + 2 < TB := by have := HTB.out; omega
          have cTj : (atG W6 w.heap.size TB Q m E).cell? ⟨TB, j * 11, none⟩ = some (.slice (some ⟨TB + 1 + j, 0, none⟩) 1 1) := PR.out.env.cT j hjm
          change Code.wp _ _ _ _ (atG W6 w.heap.size TB Q m E)
          clear hz6 a0 a1 a2 a3 a4 hlt HW6 FTH FW cPos
          generalize atG W6 w.heap.size TB Q m E = W4 at *
          go_wp2_with fail
          have pr := PR.out
          have hrem : Calls Yba.prog 10 #[.pointer (some ⟨Q + 1 + 1 + 1 + 1 + 1 + 1, 0, none⟩), .pointer (some ⟨TB + 1 + j, 0, none⟩)] W4 fun e w' => e = .returned (.tuple #[]) ∧ Tch (SR (blkG w.heap.size TB Q) (m + 1) (Q + 4)) W4 w' ∧ Env w' (blkG w.heap.size TB Q) (m + 1) (fun t => ((g t : Nat) : Int) + 1) (.slice (some ⟨Q + 4, 0, none⟩) 2 2) 0 1 ∧
              w'.cell? ⟨Q + 1 + 1 + 1, 1, none⟩ = some (.slice (some ⟨w.heap.size + 1, 0, none⟩) m (m + 1)) ∧ ∃ tx' ws' en' hole, Rem (m + 1) g E j 5 tx' ws' en' hole ∧ RowsG w' (blkG w.heap.size TB Q) (m + 1) g tx' ws' ∧ EnB w' (Q + 4) en' :=
            removeEnds (blkG w.heap.size TB Q) m j (Q + 4) g tx pos E 0 1 W4 hm hjm HG.out GG.out (blkG_apart _ _ _ _ hN2 HQ.out) (blkG_en _ _ _ _ hN2 HQ.out) pr.env pr.rws pr.eb pr.cHH pr.fHH
          refine hrem.mono ?_
          rintro e W5 ⟨rfl, t5, env5, cHH5, tx5, ws5, en5, hole5, rem5, rs5, eb5⟩
          have VE := hide (ver GG.out HG.out hjm rem5)
          have yL : W5.cell? ⟨Q + 1 + 1 + 1 + 1 + 1 + 1, 17, none⟩ = some (.pointer (some ⟨Q + 1 + 1 + 1 + 1 + 1, 0, none⟩)) := env5.cL17
          have yW : W5.cell? ⟨Q + 1 + 1 + 1 + 1 + 1, 2, none⟩ = some (.slice (some ⟨Q + 1 + 1 + 1, 0, none⟩) 2 2) := env5.cWI2
          have yX : W5.cell? ⟨Q + 1 + 1 + 1 + 1 + 1, 3, none⟩ = some (.slice (some ⟨Q + 1 + 1 + 1 + 1, 0, none⟩) 2 2) := env5.cWI3
          have HQ' := HQ.out
          have hSQ : ¬ SR (blkG w.heap.size TB Q) (m + 1) (Q + 4) Q := srQ _ _ _ _ hN2 HQ'
          have oldE : ∀ q, q < 5 → W5.cell? ⟨Q, q, none⟩ = some (.int .i32 (E q)) := fun q hq => t5.cell (pr.old q hq) hSQ
          have B5 : Below w.heap.size w W5 := ⟨t5.os.trans pr.bel.os, t5.tape.trans pr.bel.tape, t5.output.trans pr.bel.output, Nat.le_trans pr.bel.size t5.size, fun x hx => (t5.block x (by rw [pr.size]; omega) (srLow _ _ _ _ _ hN2 HQ' hx)).trans (pr.bel.block x hx)⟩
          have hz5 : Q + 7 ≤ W5.heap.size := by rw [← pr.size]; exact t5.size
          have n0 : W5.cell? ⟨Q + 1 + 1 + 1 + 1, 5, none⟩ = some (.int .i32 (en5 0)) := eb5.cell 0 (by omega)
          have n1 : W5.cell? ⟨Q + 1 + 1 + 1 + 1, 6, none⟩ = some (.int .i32 (en5 1)) := eb5.cell 1 (by omega)
          have n2 : W5.cell? ⟨Q + 1 + 1 + 1 + 1, 7, none⟩ = some (.int .i32 (en5 2)) := eb5.cell 2 (by omega)
          have n3 : W5.cell? ⟨Q + 1 + 1 + 1 + 1, 8, none⟩ = some (.int .i32 (en5 3)) := eb5.cell 3 (by omega)
          have n4 : W5.cell? ⟨Q + 1 + 1 + 1 + 1, 9, none⟩ = some (.int .i32 (en5 4)) := eb5.cell 4 (by omega)
          have OLD := hide oldE
          have ENV5 := hide env5
          have RS5 := hide rs5
          have HB5 := hide B5
          have hmm : ((m : Int) != (m : Int)) = false := by simp
          clear t5 env5 rs5 oldE B5 pr PR cTj hrem HQ' rem5 eb5 hSQ
          go_wp2_with fail
          clear n0 n1 n2 n3 n4 yL yW yX cHH5
          have t7 : Tch (fun _ => False) W5 (W5.alloc (.cells #[.int .i32 (en5 0), .int .i32 (en5 1), .int .i32 (en5 2), .int .i32 (en5 3), .int .i32 (en5 4)] 94)) := (Tch.refl _ W5).alloc _
          have hz7 : (W5.alloc (.cells #[.int .i32 (en5 0), .int .i32 (en5 1), .int .i32 (en5 2), .int .i32 (en5 3), .int .i32 (en5 4)] 94)).heap.size = W5.heap.size + 1 := by simp
          have bN := block_new W5 (.cells #[.int .i32 (en5 0), .int .i32 (en5 1), .int .i32 (en5 2), .int .i32 (en5 3), .int .i32 (en5 4)] 94)
          have cN : Hid (∀ q, q < 5 → (W5.alloc (.cells #[.int .i32 (en5 0), .int .i32 (en5 1), .int .i32 (en5 2), .int .i32 (en5 3), .int .i32 (en5 4)] 94)).cell? ⟨W5.heap.size, q, none⟩ = some (.int .i32 (en5 q))) := five_cells bN
          have cOld : Hid (∀ q, q < 5 → (W5.alloc (.cells #[.int .i32 (en5 0), .int .i32 (en5 1), .int .i32 (en5 2), .int .i32 (en5 3), .int .i32 (en5 4)] 94)).cell? ⟨Q, q, none⟩ = some (.int .i32 (E q))) := fun q hq => t7.cell (OLD.out q hq) (fun e => e)
          have T7 := hide t7
          generalize hNE : W5.heap.size = NE at *
          have HNE := hide hNE
          clear hNE t7 bN OLD
          generalize W5.alloc (.cells #[.int .i32 (en5 0), .int .i32 (en5 1), .int .i32 (en5 2), .int .i32 (en5 3), .int .i32 (en5 4)] 94) = W7 at *
          go_loopw [20] (fun kk wx => ∃ k : Nat, k ≤ 5 ∧ kk = .int .i64 k ∧ wx = W7) (fun kk _ => 5 - (intOf kk).toNat)
          case atStart => exact ⟨0, by omega, rfl, rfl⟩
          case round =>
            obtain ⟨k, hk5', rfl, rfl⟩ := hrel
            by_cases hk6 : k < 5
            · have hk7 : (k : Int) < 5 := by omega
              have v1 := cOld.out k hk6
              have v2 := cN.out k hk6
              by_cases hgk : g j ≤ k
              · have hgk' : (g j : Int) ≤ (k : Int) := by omega
                have hlw := VE.out.lowers k hk6 hgk
                have hle := VE.out.le k hk6
                have hle' : (en5 k : Int) ≤ 1024 := by omega
                rw [← hlw] at v1
                have v1' : wr.cell? ⟨Q, k, none⟩ = some (.int .i32 ((en5 k : Int) + 1)) := by rw [v1]; simp
                have hxx : ((en5 k : Int) != (en5 k : Int)) = false := by simp
                clear v1 hlw
                go_wp2_with fail
                go_roundw
                case rel => exact ⟨k + 1, by omega, by go_num, trivial⟩
                case measure => simp [intOf]; omega
              · have hgk' : ¬ (g j : Int) ≤ (k : Int) := by omega
                rw [VE.out.keeps k hk6 hgk] at v2
                have hxx : ((E k : Int) != (E k : Int)) = false := by simp
                go_wp2_with fail
                go_roundw
                case rel => exact ⟨k + 1, by omega, by go_num, trivial⟩
                case measure => simp [intOf]; omega
            · have hk7 : ¬ (k : Int) < 5 := by omega
              obtain ⟨kx, hkx⟩ : ∃ x, x = k := ⟨k, rfl⟩
              subst hkx
              obtain ⟨W7, hW7⟩ : ∃ x, x = wr := ⟨wr, rfl⟩
              subst hW7
              obtain ⟨o8, hmk8, c8, f8⟩ := make34 m hm W7
              have lH : w.heap.size + 1 < NE := by have := HQ.out; omega
              have lT : TB < NE := by have := HQ.out; omega
              have lU : ∀ t, t < m + 1 → TB + 1 + t < NE := fun t ht => by have := HQ.out; omega
              have LU := hide lU
              have t8 : Tch (fun x => x = NE + 1) W7 (W7.alloc o8) := (Tch.refl _ W7).alloc _
              rw [hz7] at c8 f8 hmk8
              have hz8 : (W7.alloc o8).heap.size = NE + 2 := by simp [hz7]
              have C8 := hide c8
              have F8 := hide f8
              have T8 := hide t8
              clear c8 f8 t8 lU
              go_wp2_with fail
              clear hmk8
              generalize W7.alloc o8 = W8 at *
              go_loopw [23, 24] (fun st kk wx => ∃ (k s0 : Nat) (sn : Nat → Bool), k ≤ 5 ∧ kk = .int .i64 k ∧ st = .int .i32 s0 ∧ (∀ q, q < k → en5 q ≤ s0) ∧ (k < 5 → s0 ≤ en5 k) ∧ (k = 5 → s0 = m) ∧ (∀ t, t < m + 1 → wx.cell? ⟨NE + 1, t, none⟩ = some (.bool (sn t))) ∧ Free wx (NE + 1) ∧ (∀ t, sn t = true → ws5 t < s0) ∧ Tch (fun x => x = NE + 1) W7 wx) (fun _ kk _ => 5 - (intOf kk).toNat)
              case atStart => exact ⟨0, 0, fun _ => false, by omega, rfl, rfl, fun q hq => by omega, fun _ => by omega, fun e => by omega, C8.out, F8.out, (fun t e => Bool.noConfusion e), T8.out⟩
              case round =>
                obtain ⟨k, s0, sn, hk8, rfl, rfl, hs5, hsk, hsm, cs, fs, hsn, tw⟩ := hrel
                clear C8 F8 T8
                by_cases hk9 : k < 5
                · have hk10 : (k : Int) < 5 := by omega
                  have hsk' := hsk hk9
                  have v2 : wr.cell? ⟨NE, k, none⟩ = some (.int .i32 (en5 k)) := tw.cell (cN.out k hk9) (by show ¬ NE = NE + 1; omega)
                  have hle := VE.out.le k hk9
                  have z1 : ¬ (en5 k : Int) < (s0 : Int) := by omega
                  have z2 : ¬ (m : Int) < (en5 k : Int) := by omega
                  have hmb : (m : Int) ≤ 1024 := by omega
                  have CS := hide cs
                  have FS := hide fs
                  have TW := hide tw
                  have HSN := hide hsn
                  have HS5 := hide hs5
                  clear cs fs tw hsn hs5 hsk hsm
                  go_wp2_with fail
                  clear v2
                  go_loopw [25] (fun pp wx => ∃ (p : Nat) (sn : Nat → Bool), s0 ≤ p ∧ p ≤ en5 k ∧ pp = .int .i32 p ∧ (∀ t, t < m + 1 → wx.cell? ⟨NE + 1, t, none⟩ = some (.bool (sn t))) ∧ Free wx (NE + 1) ∧ (∀ t, sn t = true → ws5 t < p) ∧ Tch (fun x => x = NE + 1) W7 wx) (fun pp _ => en5 k - (intOf pp).toNat)
                  case atStart => exact ⟨s0, sn, Nat.le_refl _, hsk', rfl, CS.out, FS.out, HSN.out, TW.out⟩
                  case round =>
                    obtain ⟨p, sn', hsp, hpe, rfl, cs, fs, hsn, tw⟩ := hrel
                    clear CS FS TW HSN
                    have v2 : wr.cell? ⟨NE, k, none⟩ = some (.int .i32 (en5 k)) := tw.cell (cN.out k hk9) (by show ¬ NE = NE + 1; omega)
                    by_cases hp : p < en5 k
                    · have hp' : (p : Int) < (en5 k : Int) := by omega
                      have hpb : (p : Int) < (m : Int) := by omega
                      obtain ⟨p1, p2, p3, p4, p5⟩ := VE.out.at_ k p hk9 hp (fun q hq => Nat.le_trans (HS5.out q hq) hsp)
                      have nf : ∀ {a : Addr} {v : Value}, a.block < NE → W5.cell? a = some v → wr.cell? a = some v := fun {a v} ha hv => tw.cell (T7.out.cell hv (fun e => e)) (by omega)
                      have r0 := nf (a := ⟨w.heap.size + 1, p * 6, none⟩) lH (RS5.out.r0 p (by omega))
                      have r1 := nf (a := ⟨w.heap.size + 1, p * 6 + 1, none⟩) lH (RS5.out.r1 p (by omega))
                      have r2 := nf (a := ⟨w.heap.size + 1, p * 6 + 2, none⟩) lH (RS5.out.r2 p (by omega))
                      have r3 := nf (a := ⟨w.heap.size + 1, p * 6 + 3, none⟩) lH (RS5.out.r3 p (by omega))
                      have r4 := nf (a := ⟨w.heap.size + 1, p * 6 + 4, none⟩) lH (RS5.out.r4 p (by omega))
                      have r5 := nf (a := ⟨w.heap.size + 1, p * 6 + 5, none⟩) lH (RS5.out.r5 p (by omega))
                      have cT := nf (a := ⟨TB, tx5 p * 11, none⟩) lT (ENV5.out.cT (tx5 p) p2)
                      have cS := nf (a := ⟨TB + 1 + tx5 p, 6, none⟩) (LU.out _ p2) (RS5.out.slot (tx5 p) p2)
                      change wr.cell? ⟨TB, tx5 p * 11, none⟩ = some (.slice (some ⟨TB + 1 + tx5 p, 0, none⟩) 1 1) at cT
                      have sF : sn' (tx5 p) = false := by
                        cases h : sn' (tx5 p) with
                        | false => rfl
                        | true => have := hsn _ h; omega
                      have cSn := cs (tx5 p) p2
                      rw [sF] at cSn
                      have fSn := fs (tx5 p)
                      rw [p4] at cS
                      rw [p5] at r4
                      have CS := hide cs
                      have FS := hide fs
                      have TW := hide tw
                      have HSN := hide hsn
                      have hU := LU.out _ p2
                      have hz : NE + 1 < wr.heap.size := lt_of_cell (p := ⟨NE + 1, tx5 p, none⟩) cSn
                      clear cs fs tw hsn nf sF
                      generalize htx : tx5 p = t at *
                      have l0 : w.heap.size + 1 < wr.heap.size := by omega
                      have l1 : TB < wr.heap.size := by omega
                      have l2 : TB + 1 + t < wr.heap.size := by omega
                      have p2' : (t : Int) < (m : Int) + 1 := by omega
                      have p3' : ((t : Int) == (j : Int)) = false := by simp; omega
                      have hxx : ((p : Int) != (p : Int)) = false := by simp
                      have hyy : (((k : Int) + 1) != ((k : Int) + 1)) = false := by simp
                      have hnl : ¬ (m : Int) + 1 ≤ (t : Int) := by omega
                      go_wp2_with fail
                      go_roundw
                      case rel =>
                        obtain ⟨a1, a2, a3⟩ := seenStep CS.out FS.out TW.out p2 (.cells #[.int .i32 t, .int .i32 (-1), .int .i32 0, .int .u8 0, .int .u8 ((k : Int) + 1), .bool false] 84)
                        refine ⟨p + 1, put sn' t true, by omega, by omega, by go_num, a1, a2, fun t' e => ?_, a3⟩
                        by_cases e' : t' = t
                        · rw [e', p4]; omega
                        · rw [put_other _ _ e'] at e
                          have := HSN.out t' e
                          omega
                      case measure => simp [intOf]; omega
                    · obtain rfl : p = en5 k := by omega
                      have hp' : ¬ (en5 k : Int) < (en5 k : Int) := by omega
                      have CS := hide cs
                      have FS := hide fs
                      have TW := hide tw
                      have HSN := hide hsn
                      clear cs fs tw hsn
                      go_wp2_with fail
                      go_roundw
                      case rel =>
                        refine ⟨k + 1, en5 k, sn', by omega, by go_num, rfl, fun q hq => VE.out.mono q k (by omega) hk9, fun hk11 => VE.out.mono k (k + 1) (by omega) hk11, fun e => ?_, CS.out, FS.out, HSN.out, TW.out⟩
                        have : k = 4 := by omega
                        rw [this]; exact VE.out.last
                      case measure => simp [intOf]; omega
                · obtain rfl : k = 5 := by omega
                  obtain rfl : s0 = m := hsm rfl
                  have hfin : ((s0 : Int) == (s0 : Int)) = true := by simp
                  have hmb : (s0 : Int) ≤ 1024 := by omega
                  have TW := hide tw
                  clear cs fs tw hsn hs5 hsk hsm
                  go_wp2_with fail
                  go_ret
                  have t6 := TW.out
                  have t7 := T7.out
                  have b5 := HB5.out
                  have hne := HNE.out
                  exact ⟨rfl, ⟨t6.os.trans (t7.os.trans b5.os), t6.tape.trans (t7.tape.trans b5.tape), t6.output.trans (t7.output.trans b5.output), Nat.le_trans b5.size (Nat.le_trans t7.size t6.size), fun x hx => (t6.block x (Nat.lt_of_lt_of_le hx (Nat.le_trans b5.size t7.size)) (by have := b5.size; show ¬ x = NE + 1; omega)).trans ((t7.block x (Nat.lt_of_lt_of_le hx b5.size) (fun e => e)).trans (b5.block x hx))⟩⟩

end Gr
end Go.Proofs.Ybulkaylc
