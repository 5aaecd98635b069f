import Derived.Test.YbulkaylcGrM
import Derived.Test.YbulkaylcSwC
namespace Go.Proofs.Ybulkaylc
open Go.RowKit
set_option linter.unusedVariables false
namespace Gr
open Sw

set_option maxHeartbeats 400000 in
theorem groupAt (x : Nat) (hx : x < 5) (w : World) :
    Calls Yba.prog 15 #[.int .u8 ((x : Int) + 1)] w fun e w' => e = .returned (.int .i64 x) ∧ w' = w := by
  match x, hx with
  | 0, _ => go_enter Yba.func15, Yba.ntmps15; go_wp2; go_ret; exact ⟨rfl, rfl⟩
  | 1, _ => go_enter Yba.func15, Yba.ntmps15; go_wp2; go_ret; exact ⟨rfl, rfl⟩
  | 2, _ => go_enter Yba.func15, Yba.ntmps15; go_wp2; go_ret; exact ⟨rfl, rfl⟩
  | 3, _ => go_enter Yba.func15, Yba.ntmps15; go_wp2; go_ret; exact ⟨rfl, rfl⟩
  | 4, _ => go_enter Yba.func15, Yba.ntmps15; go_wp2; go_ret; exact ⟨rfl, rfl⟩

theorem Rws.congr {w : World} {b : Blk} {n : Nat} {it : Int} {tx tx' : Nat → Nat} {qa he ws qa' he' ws' : Nat → Int} (h : Rws w b n it tx qa he ws) (h1 : ∀ i, i < n → tx' i = tx i) (h2 : ∀ i, i < n → qa' i = qa i) (h3 : ∀ i, i < n → he' i = he i) (h4 : ∀ i, i < n → ws' i = ws i) : Rws w b n it tx' qa' he' ws' :=
  ⟨fun i hi => by rw [h1 i hi]; exact h.r0 i hi, h.r1, fun i hi => by rw [h2 i hi]; exact h.r2 i hi, h.r3, fun i hi => by rw [h3 i hi]; exact h.r4 i hi, h.r5, fun i hi => by rw [h4 i hi]; exact h.slot i hi⟩

/-- The rows of this law. -/
def RowsG (w : World) (b : Blk) (n : Nat) (g tx ws : Nat → Nat) : Prop :=
  Rws w b n (-1) tx (fun _ => 0) (fun p => ((g (tx p) : Nat) : Int) + 1) (fun t => ((ws t : Nat) : Int))

/-- The ends' block. -/
structure EnB (w : World) (EN : Nat) (en : Nat → Nat) : Prop where
  cell : ∀ q, q < 5 → w.cell? ⟨EN, 5 + q, none⟩ = some (.int .i32 (en q))
  free : ∀ j, w.frozen? ⟨EN, j, none⟩ = false

/-- The ends' block is apart from the others. -/
structure EnApart (b : Blk) (n EN : Nat) : Prop where
  H : EN ≠ b.H
  L : EN ≠ b.L
  WI : EN ≠ b.WI
  E : EN ≠ b.E
  HH : EN ≠ b.HH
  T : EN ≠ b.T
  U : ∀ i, i < n → EN ≠ b.U i

theorem EnB.tch {S : Nat → Prop} {w w' : World} {EN : Nat} {en : Nat → Nat} (h : EnB w EN en) (t : Tch S w w') (hs : ¬ S EN) : EnB w' EN en :=
  ⟨fun q hq => t.cell (h.cell q hq) hs, fun j => (World.frozen?_of_block (w := w) (a := ⟨EN, j, none⟩) (t.block EN (lt_of_cell (p := ⟨EN, 5 + 0, none⟩) (h.cell 0 (by omega))) hs)).trans (h.free j)⟩
theorem EnB.set {w : World} {EN : Nat} {en : Nat → Nat} (h : EnB w EN en) (k v : Nat) (hk : k < 5) : EnB (w.setCell ⟨EN, 5 + k, none⟩ (.int .i32 v)) EN (put en k v) := by
  refine ⟨fun q hq => ?_, fun j => by rw [World.frozen?_setCell]; exact h.free j⟩
  by_cases e : q = k
  · subst e; rw [put_same]; exact World.cell?_setCell_same _ _ _ (h.cell q hq)
  · rw [put_other _ _ e, World.cell?_setCell_other _ _ _ _ (fun e' => by injection e'; omega)]; exact h.cell q hq

/-- What the removal may turn. -/
def SR (b : Blk) (n EN : Nat) : Nat → Prop := fun k => k = b.H ∨ k = EN ∨ k = b.HH ∨ ∃ i, i < n ∧ k = b.U i

/-- What one more turn of the ends leaves. -/
theorem keepEn {b : Blk} {m EN : Nat} {g tx ws en : Nat → Nat} {hd : Nat → Int} {ends : Value} {el ec : Nat} {W : World} (ap : Apart b (m + 1)) (ea : EnApart b (m + 1) EN) (env : Env W b (m + 1) hd ends el ec) (rs : RowsG W b (m + 1) g tx ws) (eb : EnB W EN en)
    (cHH : W.cell? ⟨b.HH, 1, none⟩ = some (.slice (some ⟨b.H, 0, none⟩) (m + 1) (m + 1))) (fHH : W.frozen? ⟨b.HH, 1, none⟩ = false) (k v : Nat) (hk : k < 5) :
    Tch (SR b (m + 1) EN) W (W.setCell ⟨EN, 5 + k, none⟩ (.int .i32 v)).drew ∧ Env (W.setCell ⟨EN, 5 + k, none⟩ (.int .i32 v)).drew b (m + 1) hd ends el ec ∧ RowsG (W.setCell ⟨EN, 5 + k, none⟩ (.int .i32 v)).drew b (m + 1) g tx ws ∧ EnB (W.setCell ⟨EN, 5 + k, none⟩ (.int .i32 v)).drew EN (put en k v) ∧
      (W.setCell ⟨EN, 5 + k, none⟩ (.int .i32 v)).drew.cell? ⟨b.HH, 1, none⟩ = some (.slice (some ⟨b.H, 0, none⟩) (m + 1) (m + 1)) ∧ (W.setCell ⟨EN, 5 + k, none⟩ (.int .i32 v)).drew.frozen? ⟨b.HH, 1, none⟩ = false := by
  have t : Tch (fun x => x = EN) W (W.setCell ⟨EN, 5 + k, none⟩ (.int .i32 v)).drew := ((Tch.refl (fun x => x = EN) W).setCell (p := ⟨EN, 5 + k, none⟩) rfl _).drewN 1
  have e := eb.set k v hk
  refine ⟨t.mono (fun x hx => Or.inr (Or.inl hx)), env.kept t (lt_of_cell (rs.r0 0 (by omega))) (fun e => ea.L e.symm) (fun e => ea.WI e.symm) (fun e => ea.E e.symm) (fun e => ea.T e.symm) (fun e => ea.H e.symm) (fun i hi e => ea.U i hi e.symm), Rws.tch rs t (fun e => ea.H e.symm) (fun i hi e => ea.U i hi e.symm), ⟨e.cell, e.free⟩, t.cell cHH (fun e => ea.HH e.symm), ?_⟩
  exact (World.frozen?_of_block (w := W) (a := ⟨b.HH, 1, none⟩) (t.block b.HH (lt_of_cell (p := ⟨b.HH, 1, none⟩) cHH) (fun e => ea.HH e.symm))).trans fHH

set_option maxHeartbeats 1000000 in
set_option maxRecDepth 100000 in
theorem removeEnds (b : Blk) (m j EN : Nat) (g tx pos E : Nat → Nat) (el ec : Nat) (w : World) (hn : m + 1 ≤ 1024) (hj : j < m + 1) (hg : ∀ t, t < m + 1 → g t < 5) (hG : Good (m + 1) g tx pos E)
    (ap : Apart b (m + 1)) (ea : EnApart b (m + 1) EN) (env : Env w b (m + 1) (fun t => ((g t : Nat) : Int) + 1) (.slice (some ⟨EN, 0, none⟩) 2 2) el ec) (rs : RowsG w b (m + 1) g tx pos) (eb : EnB w EN E)
    (cHH : w.cell? ⟨b.HH, 1, none⟩ = some (.slice (some ⟨b.H, 0, none⟩) (m + 1) (m + 1))) (fHH : w.frozen? ⟨b.HH, 1, none⟩ = false) :
    Calls Yba.prog 10 #[.pointer (some ⟨b.L, 0, none⟩), .pointer (some ⟨b.U j, 0, none⟩)] w fun e w' => e = .returned (.tuple #[]) ∧ Tch (SR b (m + 1) EN) w w' ∧ Env w' b (m + 1) (fun t => ((g t : Nat) : Int) + 1) (.slice (some ⟨EN, 0, none⟩) 2 2) el ec ∧
      w'.cell? ⟨b.HH, 1, none⟩ = some (.slice (some ⟨b.H, 0, none⟩) m (m + 1)) ∧ ∃ tx' ws' en' hole, Rem (m + 1) g E j 5 tx' ws' en' hole ∧ RowsG w' b (m + 1) g tx' ws' ∧ EnB w' EN en' := by
  have cL17 := env.cL17
  have cWI0 := env.cWI0
  have cWI2 := env.cWI2
  have cWI3 := env.cWI3
  have cE := env.cE
  have cU0 := env.cU0 j hj
  have cU2 := env.cU2 j hj
  have cU6 := rs.slot j hj
  have hgj := hg j hj
  have hq : ∀ (w : World), (binOp .eql 55 (.slice (some ⟨EN, 0, none⟩) 2 2) (.slice none 0 0)).run Yba.prog w = .ok (.bool false) w := fun w => by
    have := Lib.run_eql_slice_nil (P := Yba.prog) w 55 94 (some ⟨EN, 0, none⟩) 2 2 0 0 Yba.underlying55
    exact this
  have ENV := hide env
  have RS := hide rs
  have AP := hide ap
  have EA := hide ea
  have EB := hide eb
  have GG := hide hG
  have HG := hide hg
  clear env rs ap ea eb hG hg
  go_enter Yba.func10, Yba.ntmps10
  go_wp2_with fail
  go_quiet ((go_at_call 13; exact Calls.quiet_of_same (entryOf b.WI b.E el ec _ cWI0 cE)))
  go_wp2_with fail
  refine (groupAt (g j) hgj _).mono ?_
  rintro e W1 ⟨rfl, rfl⟩
  go_wp2_with fail
  have T1 : Hid (Tch (SR b (m + 1) EN) w (w.drewN nq)) := (Tch.refl _ w).drewN nq
  have ENV1 := hide (ENV.out.drewN nq)
  have RS1 : Hid (RowsG (w.drewN nq) b (m + 1) g tx pos) := RS.out.drewN nq
  have EB1 : Hid (EnB (w.drewN nq) EN E) := ⟨EB.out.cell, EB.out.free⟩
  have cHH1 : Hid ((w.drewN nq).cell? ⟨b.HH, 1, none⟩ = some (.slice (some ⟨b.H, 0, none⟩) (m + 1) (m + 1))) := cHH
  have fHH1 : Hid ((w.drewN nq).frozen? ⟨b.HH, 1, none⟩ = false) := fHH
  clear cL17 cWI0 cWI2 cWI3 cE cU0 cU2 cU6 hq cHH fHH ENV RS EB
  generalize w.drewN nq = W1 at *
  go_loopw [6, 8] (fun h k wr => ∃ (kk hole : Nat) (tx' ws' en' : Nat → Nat), g j ≤ kk ∧ kk ≤ 5 ∧ h = .int .i32 hole ∧ k = .int .i64 kk ∧ Rem (m + 1) g E j kk tx' ws' en' hole ∧ Tch (SR b (m + 1) EN) w wr ∧ Env wr b (m + 1) (fun t => ((g t : Nat) : Int) + 1) (.slice (some ⟨EN, 0, none⟩) 2 2) el ec ∧ RowsG wr b (m + 1) g tx' ws' ∧ EnB wr EN en' ∧ wr.cell? ⟨b.HH, 1, none⟩ = some (.slice (some ⟨b.H, 0, none⟩) (m + 1) (m + 1)) ∧ wr.frozen? ⟨b.HH, 1, none⟩ = false) (fun _ k _ => 5 - (intOf k).toNat)
  case atStart => exact ⟨g j, pos j, tx, pos, E, Nat.le_refl _, by omega, rfl, rfl, GG.out.rem j hj, T1.out, ENV1.out, RS1.out, EB1.out, cHH1.out, fHH1.out⟩
  case round =>
    obtain ⟨k, hole, tx', ws', en', hgk, hk5, rfl, rfl, hrem, tr, envr, rsr, ebr, cHr, fHr⟩ := hrel
    have ap := AP.out
    have ea := EA.out
    by_cases hk : k < 5
    · have hk' : (k : Int) < 5 := by omega
      have hhi := hrem.hi k (Nat.le_refl _) hk
      have hEn := (GG.out.ends k hk).1
      obtain ⟨L, hL⟩ : ∃ L, E k = L + 1 := ⟨E k - 1, by omega⟩
      have hen : en' k = L + 1 := by rw [hrem.en_eq k hk, if_neg (by omega), hL]
      have ce : wr.cell? ⟨EN, 5 + k, none⟩ = some (.int .i32 ((L : Int) + 1)) := by rw [ebr.cell k hk, hen]; simp
      have hf := ebr.free (5 + k)
      have cU0r := envr.cU0 j hj
      have hL1 : L < m + 1 := by omega
      have hLb : L < 1024 := by omega
      have HREM := hide hrem
      have TR := hide tr
      have ENVR := hide envr
      have RSR := hide rsr
      have EBR := hide ebr
      have CHR := hide cHr
      have FHR := hide fHr
      have HAP := hide ap
      have HEA := hide ea
      by_cases he : L = hole
      · subst he
        have hne : ((L : Int) != (L : Int)) = false := by simp
        clear hrem tr envr rsr ebr cHr fHr ap ea T1 ENV1 RS1 EB1 cHH1 fHH1
        go_wp2_with fail
        go_region
        go_wp2_with fail
        go_roundw
        case rel =>
          obtain ⟨t, a1, a2, a3, a4, a5⟩ := keepEn HAP.out HEA.out ENVR.out RSR.out EBR.out CHR.out FHR.out k L hk
          have hst := HREM.out.stay GG.out hk hgk (by rw [hL]; rfl)
          rw [hL] at hst
          exact ⟨k + 1, L, tx', ws', _, by omega, by omega, rfl, by go_num, hst, TR.out.trans t, a1, a2, a3, a4, a5⟩
        case measure => simp [intOf]; omega
      · have hne : ((L : Int) != (hole : Int)) = true := by simp; omega
        have htx : tx' L < m + 1 := (hrem.row L hL1 he).1
        have hh1 : hole < m + 1 := hrem.hole_lt
        clear hrem tr envr rsr ebr cHr fHr ap ea T1 ENV1 RS1 EB1 cHH1 fHH1
        go_wp2_with fail
        refine (Sw.move b (m + 1) (m + 1) L hole _ (.slice (some ⟨EN, 0, none⟩) 2 2) el ec (-1) tx' (fun _ => 0) (fun p => ((g (tx' p) : Nat) : Int) + 1) (fun t => ((ws' t : Nat) : Int)) wr hn (Nat.le_refl _) hL1 hh1 htx HAP.out ENVR.out RSR.out CHR.out).mono ?_
        rintro e W2 ⟨rfl, t2, env2, rs2⟩
        have ap := HAP.out
        have ea := HEA.out
        have hsEN : ¬ (EN = b.H ∨ EN = b.U (tx' L)) := fun e => e.elim ea.H (ea.U _ htx)
        have hsHH : ¬ (b.HH = b.H ∨ b.HH = b.U (tx' L)) := fun e => e.elim (fun e => ap.hHH e.symm) (fun e => ap.uHH _ htx e.symm)
        have ce2 := t2.cell (p := ⟨EN, 5 + k, none⟩) ce hsEN
        have eb2 := EBR.out.tch t2 hsEN
        have hf2 := eb2.free (5 + k)
        have cH2 := t2.cell (p := ⟨b.HH, 1, none⟩) CHR.out hsHH
        have fH2 := (World.frozen?_of_block (w := wr) (a := ⟨b.HH, 1, none⟩) (t2.block b.HH (lt_of_cell (p := ⟨b.HH, 1, none⟩) CHR.out) hsHH)).trans FHR.out
        have T2 : Hid (Tch (SR b (m + 1) EN) w W2) := TR.out.trans (t2.mono (fun x hx => hx.elim Or.inl (fun h => Or.inr (Or.inr (Or.inr ⟨_, htx, h⟩)))))
        have RS2 : Hid (RowsG W2 b (m + 1) g (put tx' hole (tx' L)) (put ws' (tx' L) hole)) := Rws.congr rs2 (fun i hi => rfl) (fun i hi => by by_cases e : i = hole; rw [e, put_same]; rw [put_other _ _ e]) (fun i hi => by by_cases e : i = hole; rw [e, put_same, put_same]; rw [put_other _ _ e, put_other _ _ e]) (fun i hi => by by_cases e : i = tx' L; rw [e, put_same, put_same]; rw [put_other _ _ e, put_other _ _ e])
        have ENV2 := hide env2
        have EB2 := hide eb2
        have CH2 := hide cH2
        have FH2 := hide fH2
        clear t2 env2 rs2 ce hf cU0r ap ea eb2 cH2 fH2
        go_wp2_with fail
        go_region
        go_wp2_with fail
        go_roundw
        case rel =>
          obtain ⟨t, a1, a2, a3, a4, a5⟩ := keepEn HAP.out HEA.out ENV2.out RS2.out EB2.out CH2.out FH2.out k L hk
          have hst := HREM.out.move GG.out hk hgk (by rw [hL]; exact he)
          rw [hL] at hst
          exact ⟨k + 1, L, _, _, _, by omega, by omega, rfl, by go_num, hst, T2.out.trans t, a1, a2, a3, a4, a5⟩
        case measure => simp [intOf]; omega
    · obtain rfl : k = 5 := by omega
      have d17 := envr.cL17
      have d2 := envr.cWI2
      have HREM := hide hrem
      have TR := hide tr
      have ENVR := hide envr
      have RSR := hide rsr
      have EBR := hide ebr
      clear hrem tr envr rsr ebr ap ea T1 ENV1 RS1 EB1 cHH1 fHH1
      go_wp2_with fail
      go_region
      go_wp2_with fail
      go_end0
      have t3 : Tch (fun k => k = b.HH) wr (wr.setCell ⟨b.HH, 1, none⟩ (.slice (some ⟨b.H, 0, none⟩) m (m + 1))).drew := ((Tch.refl (fun k => k = b.HH) wr).setCell (p := ⟨b.HH, 1, none⟩) rfl _).drewN 1
      have ap := AP.out
      have ea := EA.out
      refine ⟨rfl, TR.out.trans (t3.mono (fun k hk => Or.inr (Or.inr (Or.inl hk)))), ENVR.out.kept t3 (lt_of_cell (RSR.out.r0 0 (by omega))) (fun e => ap.hhL e.symm) (fun e => ap.hhWI e.symm) (fun e => ap.hhE e.symm) (fun e => ap.hhT e.symm) ap.hHH (fun i hi => ap.uHH i hi), World.cell?_setCell_same _ _ _ cHr, tx', ws', en', hole, HREM.out, Rws.tch RSR.out t3 ap.hHH (fun i hi => ap.uHH i hi), EBR.out.tch t3 ea.HH⟩

end Gr
end Go.Proofs.Ybulkaylc
