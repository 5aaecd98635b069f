import Derived.Test.YbulkaylcSwB
namespace Go.Proofs.Ybulkaylc
open Go.RowKit
set_option linter.unusedVariables false
namespace Sw

theorem Rws.tch {S : Nat → Prop} {w w' : World} {b : Blk} {n : Nat} {it : Int} {tx : Nat → Nat} {qa he ws : Nat → Int} (h : Rws w b n it tx qa he ws) (t : Tch S w w') (sH : ¬ S b.H) (sU : ∀ i, i < n → ¬ S (b.U i)) : Rws w' b n it tx qa he ws :=
  ⟨fun i hi => t.cell (h.r0 i hi) sH, fun i hi => t.cell (h.r1 i hi) sH, fun i hi => t.cell (h.r2 i hi) sH, fun i hi => t.cell (h.r3 i hi) sH, fun i hi => t.cell (h.r4 i hi) sH, fun i hi => t.cell (h.r5 i hi) sH, fun i hi => t.cell (h.slot i hi) (sU i hi)⟩
/-- .. where none of the blocks has turned. -/
theorem Env.kept {S : Nat → Prop} {w w' : World} {b : Blk} {n : Nat} {hd : Nat → Int} {ends : Value} {el ec : Nat} (h : Env w b n hd ends el ec) (t : Tch S w w') (hH : b.H < w.heap.size) (sL : ¬ S b.L) (sWI : ¬ S b.WI) (sE : ¬ S b.E) (sT : ¬ S b.T) (sH : ¬ S b.H) (sU : ∀ i, i < n → ¬ S (b.U i)) : Env w' b n hd ends el ec :=
  h.tch t sL sWI sE sT (fun i hi => t.cell (h.cU0 i hi) (sU i hi)) (fun i hi => t.cell (h.cU2 i hi) (sU i hi))
    (fun i hi => (World.frozen?_of_block (w := w) (a := ⟨b.U i, 6, none⟩) (t.block (b.U i) (lt_of_cell (p := ⟨b.U i, 0, none⟩) (h.cU0 i hi)) (sU i hi))).trans (h.fU i hi))
    (fun j => (World.frozen?_of_block (w := w) (a := ⟨b.H, j, none⟩) (t.block b.H hH sH)).trans (h.fH j))

set_option maxHeartbeats 800000 in
set_option maxRecDepth 100000 in
theorem removeNil (b : Blk) (m j d : Nat) (hd : Nat → Int) (el ec : Nat) (it : Int) (tx : Nat → Nat) (qa he ws : Nat → Int) (w : World) (hn : m + 1 ≤ 1024) (hj : j < m + 1) (hdj : ws j = d) (hdn : d < m + 1) (htx : tx m < m + 1)
    (ap : Apart b (m + 1)) (env : Env w b (m + 1) hd (.slice none 0 0) el ec) (rs : Rws w b (m + 1) it tx qa he ws) (cHH : w.cell? ⟨b.HH, 1, none⟩ = some (.slice (some ⟨b.H, 0, none⟩) (m + 1) (m + 1))) (fHH : w.frozen? ⟨b.HH, 1, none⟩ = false) :
    Calls Yba.prog 10 #[.pointer (some ⟨b.L, 0, none⟩), .pointer (some ⟨b.U j, 0, none⟩)] w fun e w' => e = .returned (.tuple #[]) ∧ Tch (fun k => k = b.H ∨ k = b.U (tx m) ∨ k = b.HH) w w' ∧ Env w' b (m + 1) hd (.slice none 0 0) el ec ∧ Rws w' b (m + 1) it (put tx d (tx m)) (put qa d (qa m)) (put he d (he m)) (put ws (tx m) d) ∧ w'.cell? ⟨b.HH, 1, none⟩ = some (.slice (some ⟨b.H, 0, none⟩) m (m + 1)) := by
  have cL17 := env.cL17
  have cWI0 := env.cWI0
  have cWI2 := env.cWI2
  have cWI3 := env.cWI3
  have cE := env.cE
  have cU0 := env.cU0 j hj
  have cU6 := rs.slot j hj
  rw [hdj] at cU6
  have hq : ∀ (w : World), (binOp .eql 55 (.slice none 0 0) (.slice none 0 0)).run Yba.prog w = .ok (.bool true) w := fun w => by kernel_rfl
  have ENV := hide env
  have RS := hide rs
  have AP := hide ap
  have HD := hide hdj
  clear env rs ap hdj
  go_enter Yba.func10, Yba.ntmps10
  go_wp2_with fail
  go_quiet ((go_at_call 13; exact Calls.quiet_of_same (entryOf b.WI b.E el ec _ cWI0 cE)))
  go_wp2_with fail
  refine (move b (m + 1) (m + 1) m d hd (.slice none 0 0) el ec it tx qa he ws (w.drewN nq) hn (Nat.le_refl _) (by omega) hdn htx AP.out (ENV.out.drewN nq) (RS.out.drewN nq) cHH).mono ?_
  rintro e W2 ⟨rfl, t2, env2, rs2⟩
  have dHH := t2.cell (p := ⟨b.HH, 1, none⟩) cHH (fun e => e.elim (fun e => AP.out.hHH e.symm) (fun e => AP.out.uHH _ htx e.symm))
  have gHH : W2.frozen? ⟨b.HH, 1, none⟩ = false := by
    rw [World.frozen?_of_block (w := w.drewN nq) (t2.block b.HH (lt_of_cell (p := ⟨b.HH, 1, none⟩) cHH) (fun e => e.elim (fun e => AP.out.hHH e.symm) (fun e => AP.out.uHH _ htx e.symm)))]; exact fHH
  have d17 := env2.cL17
  have d2 := env2.cWI2
  have ENV2 := hide env2
  have RS2 := hide rs2
  have T2 : Hid (Tch (fun k => k = b.H ∨ k = b.U (tx m) ∨ k = b.HH) w W2) := ((Tch.refl _ w).drewN nq).trans (t2.mono (fun k hk => hk.elim Or.inl (fun h => Or.inr (Or.inl h))))
  clear env2 rs2 t2 cL17 cWI0 cWI2 cWI3 cE cU0 cU6 hq cHH fHH
  go_wp2_with fail
  go_region
  go_wp2_with fail
  go_end0
  have t3 : Tch (fun k => k = b.HH) W2 (W2.setCell ⟨b.HH, 1, none⟩ (.slice (some ⟨b.H, 0, none⟩) m (m + 1))).drew := ((Tch.refl (fun k => k = b.HH) W2).setCell (p := ⟨b.HH, 1, none⟩) rfl _).drewN 1
  have ap := AP.out
  refine ⟨rfl, T2.out.trans (t3.mono (fun k hk => Or.inr (Or.inr hk))), ENV2.out.kept t3 (lt_of_cell (RS2.out.r0 0 (by omega))) (fun e => ap.hhL e.symm) (fun e => ap.hhWI e.symm) (fun e => ap.hhE e.symm) (fun e => ap.hhT e.symm) ap.hHH (fun i hi => ap.uHH i hi), RS2.out.tch t3 ap.hHH (fun i hi => ap.uHH i hi), ?_⟩
  exact World.cell?_setCell_same _ _ _ dHH

end Sw
end Go.Proofs.Ybulkaylc
