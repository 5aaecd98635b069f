import Derived.Test.YbulkaylcStA
import Derived.Deep.RegionWith
import Derived.Deep.DeepCutAuto
namespace Go.Proofs.Ybulkaylc
open Go.RowKit
set_option linter.unusedVariables false
namespace St
open Sw

set_option maxHeartbeats 400000 in
/-- The closure: nothing is left to be taken out. -/
theorem change (X1 X LF : Nat) (cap : Nat) (w : World) (c : w.cell? ⟨X1, 0, none⟩ = some (.slice (some ⟨LF, 0, none⟩) 0 cap)) :
    Calls Yba.prog 25 #[.pointer (some ⟨X1, 0, none⟩), .pointer (some ⟨X, 0, none⟩)] w fun x w' => x = .returned (.tuple #[]) ∧ w' = w := by
  go_enter Yba.func25, Yba.ntmps25
  go_wp2_with fail
  go_loop [6] (fun i => i = .int .i64 0) (fun _ => 0)
  case atStart => rfl
  case round =>
    obtain rfl := hrel
    go_wp2_with fail
    go_end0
    exact ⟨rfl, rfl⟩

set_option maxHeartbeats 1000000 in
set_option maxRecDepth 100000 in
theorem reorder (L WI LF X1 X : Nat) (w : World) (cL : w.cell? ⟨L, 17, none⟩ = some (.pointer (some ⟨WI, 0, none⟩))) (cW : w.cell? ⟨WI, 11, none⟩ = some (.slice none 0 0)) (fW : w.frozen? ⟨WI, 11, none⟩ = false) (c : w.cell? ⟨X1, 0, none⟩ = some (.slice (some ⟨LF, 0, none⟩) 0 3)) :
    Calls Yba.prog 24 #[.pointer (some ⟨L, 0, none⟩), .slice (some ⟨LF, 0, none⟩) 0 3, .func (Fn.func 25) #[] #[.pointer (some ⟨X1, 0, none⟩), .pointer (some ⟨X, 0, none⟩)]] w fun x w' => x = .returned (.tuple #[]) ∧ w' = w.setCell ⟨WI, 11, none⟩ (.slice none 0 0) := by
  go_enter Yba.func24, Yba.ntmps24
  go_wp2_with fail
  go_loop [7, 27] (fun o i => o = .slice none 0 0 ∧ i = .int .i64 0) (fun _ _ => 0)
  case atStart => exact ⟨rfl, rfl⟩
  case round =>
    obtain ⟨rfl, rfl⟩ := hrel
    go_wp2_with fail
    refine (change X1 X LF 3 w c).mono ?_
    rintro x W1 ⟨rfl, rfl⟩
    go_wp2_with fail
    go_loop [105] (fun i => i = .int .i64 0) (fun _ => 0)
    case atStart => rfl
    case round =>
      obtain rfl := hrel
      go_wp2_with fail
      go_end0
      exact ⟨rfl, rfl⟩

set_option maxHeartbeats 1000000 in
set_option maxRecDepth 100000 in
theorem takeOut (C GA k gc L WI O ND len LF : Nat) (gs : Nat → Nat) (w : World) (hk : k ≤ 5) (hg : ∀ i, i < k → gs i < len) (cGA : ∀ i, i < k → w.cell? ⟨GA, i, none⟩ = some (.int .i64 (gs i)))
    (c20 : w.cell? ⟨C, 20, none⟩ = some (.slice (some ⟨LF, 0, none⟩) 3 3)) (f20 : w.frozen? ⟨C, 20, none⟩ = false) (c0 : w.cell? ⟨C, 0, none⟩ = some (.pointer (some ⟨L, 0, none⟩))) (c4 : w.cell? ⟨C, 4, none⟩ = some (.pointer (some ⟨O, 0, none⟩)))
    (cO : w.cell? ⟨O, 0, none⟩ = some (.slice (some ⟨ND, 0, none⟩) len len)) (cN : ∀ t, t < len → w.cell? ⟨ND, t * 3, none⟩ = some (.int .u64 0)) (cL : w.cell? ⟨L, 17, none⟩ = some (.pointer (some ⟨WI, 0, none⟩))) (cW : w.cell? ⟨WI, 11, none⟩ = some (.slice none 0 0)) (fW : w.frozen? ⟨WI, 11, none⟩ = false) (hCW : C ≠ WI) :
    Calls Yba.prog 20 #[.pointer (some ⟨C, 0, none⟩), .slice (some ⟨GA, 0, none⟩) k gc] w fun x w' => x = .returned (.tuple #[]) ∧ Tch (fun x => x = C ∨ x = WI) w w' ∧ w'.cell? ⟨C, 20, none⟩ = some (.slice (some ⟨LF, 0, none⟩) 0 3) ∧ w'.cell? ⟨C, 4, none⟩ = some (.pointer (some ⟨O, 0, none⟩)) := by
  have lC : C < w.heap.size := lt_of_cell (p := ⟨C, 20, none⟩) c20
  have CGA := hide cGA
  have CN := hide cN
  have HG := hide hg
  clear cGA cN hg
  go_enter Yba.func20, Yba.ntmps20
  go_upto_region 2 with (fail)
  have s1 : (w.alloc (.cells #[.pointer (some ⟨C, 0, none⟩)] 44)).heap.size = w.heap.size + 1 := by simp
  have t1 : Tch (fun _ => False) w ((w.alloc (.cells #[.pointer (some ⟨C, 0, none⟩)] 44)).alloc (.cells #[.slice (some ⟨LF, 0, none⟩) 0 3] 32)) := ((Tch.refl _ w).alloc _).alloc _
  have x0 : ((w.alloc (.cells #[.pointer (some ⟨C, 0, none⟩)] 44)).alloc (.cells #[.slice (some ⟨LF, 0, none⟩) 0 3] 32)).cell? ⟨w.heap.size, 0, none⟩ = some (.pointer (some ⟨C, 0, none⟩)) := by
    rw [World.cell?_of_block (w := w.alloc (.cells #[.pointer (some ⟨C, 0, none⟩)] 44)) (Below.heap_alloc _ _ _ (by rw [s1]; exact Nat.lt_succ_self _))]; exact cell_block (block_new _ _) 0
  have x1 : ((w.alloc (.cells #[.pointer (some ⟨C, 0, none⟩)] 44)).alloc (.cells #[.slice (some ⟨LF, 0, none⟩) 0 3] 32)).cell? ⟨w.heap.size + 1, 0, none⟩ = some (.slice (some ⟨LF, 0, none⟩) 0 3) := by
    have := block_new (w.alloc (.cells #[.pointer (some ⟨C, 0, none⟩)] 44)) (.cells #[.slice (some ⟨LF, 0, none⟩) 0 3] 32)
    rw [s1] at this
    exact cell_block this 0
  have lf : ∀ {a : Addr} {v : Value}, w.cell? a = some v → ((w.alloc (.cells #[.pointer (some ⟨C, 0, none⟩)] 44)).alloc (.cells #[.slice (some ⟨LF, 0, none⟩) 0 3] 32)).cell? a = some v := fun h => t1.cell h (fun e => e)
  have d20 := lf c20
  have d0 := lf c0
  have d4 := lf c4
  have dO := lf cO
  have dL := lf cL
  have dW := lf cW
  have e20 := (World.frozen?_of_block (w := w) (a := ⟨C, 20, none⟩) (t1.block C lC (fun e => e))).trans f20
  have eW := (World.frozen?_of_block (w := w) (a := ⟨WI, 11, none⟩) (t1.block WI (lt_of_cell (p := ⟨WI, 11, none⟩) cW) (fun e => e))).trans fW
  have DGA : Hid (∀ i, i < k → ((w.alloc (.cells #[.pointer (some ⟨C, 0, none⟩)] 44)).alloc (.cells #[.slice (some ⟨LF, 0, none⟩) 0 3] 32)).cell? ⟨GA, i, none⟩ = some (.int .i64 (gs i))) := fun i hi => lf (CGA.out i hi)
  have DN : Hid (∀ t, t < len → ((w.alloc (.cells #[.pointer (some ⟨C, 0, none⟩)] 44)).alloc (.cells #[.slice (some ⟨LF, 0, none⟩) 0 3] 32)).cell? ⟨ND, t * 3, none⟩ = some (.int .u64 0)) := fun i hi => lf (CN.out i hi)
  have T1 := hide t1
  have lWI : WI < w.heap.size := lt_of_cell (p := ⟨WI, 11, none⟩) cW
  clear c20 f20 c0 c4 cO cL cW fW s1 t1 lf CGA CN
  generalize (w.alloc (.cells #[.pointer (some ⟨C, 0, none⟩)] 44)).alloc (.cells #[.slice (some ⟨LF, 0, none⟩) 0 3] 32) = W1 at *
  generalize hX : w.heap.size = X at *
  go_wp2_with fail
  go_loopw [14] (fun ii wx => ∃ i : Nat, i ≤ k ∧ ii = .int .i64 i ∧ wx = W1) (fun ii _ => k - (intOf ii).toNat)
  case atStart => exact ⟨0, by omega, rfl, rfl⟩
  case round =>
    obtain ⟨i, hik, rfl, rfl⟩ := hrel
    by_cases hi : i < k
    · have hiI : (i : Int) < (k : Int) := by omega
      have g0 := DGA.out i hi
      go_wp2_with fail
      refine (contains O ND len (gs i) wr (HG.out i hi) dO (DN.out _ (HG.out i hi))).mono ?_
      rintro e W2 ⟨rfl, rfl⟩
      go_wp2_with fail
      go_roundw
      case rel => exact ⟨i + 1, by omega, by go_num, trivial⟩
      case measure => simp [intOf]; omega
    · have hge : ¬ (i : Int) < (k : Int) := by omega
      go_wp2_with fail
      clear DGA DN dO HG
      go_cut [35] (fun v wx => v = .tuple #[] ∧ wx = wr.drew.setCell ⟨WI, 11, none⟩ (.slice none 0 0))
      case first =>
        go_region_with (go_at_call 24; refine (reorder L WI LF (X + 1) X wr.drew dL dW eW x1).mono ?_; rintro e W3 ⟨rfl, rfl⟩)
        all_goals (go_wp2_with fail; go_meet; exact ⟨rfl, rfl⟩)
      case rest =>
        obtain ⟨rfl, rfl⟩ := hcut
        have tz : Tch (fun x => x = WI) wr (wr.drew.setCell ⟨WI, 11, none⟩ (.slice none 0 0)) := ((Tch.refl (fun x => x = WI) wr).drewN 1).setCell (p := ⟨WI, 11, none⟩) rfl _
        have y0 := tz.cell x0 (by show ¬ X = WI; omega)
        have y1 := tz.cell x1 (by show ¬ X + 1 = WI; omega)
        have y20 := tz.cell d20 hCW
        have y4 := tz.cell d4 hCW
        have g20 : (wr.drew.setCell ⟨WI, 11, none⟩ (.slice none 0 0)).frozen? ⟨C, 20, none⟩ = false := by rw [World.frozen?_setCell]; exact e20
        have T2 : Hid (Tch (fun x => x = C ∨ x = WI) w (wr.drew.setCell ⟨WI, 11, none⟩ (.slice none 0 0))) := (T1.out.mono (fun x hx => hx.elim)).trans (tz.mono (fun x hx => Or.inr hx))
        clear tz x0 x1 d20 d0 d4 dL dW e20 eW T1
        generalize wr.drew.setCell ⟨WI, 11, none⟩ (.slice none 0 0) = W3 at *
        go_wp2_with fail
        go_end0
        exact ⟨rfl, T2.out.setCell (p := ⟨C, 20, none⟩) (Or.inl rfl) _, World.cell?_setCell_same _ _ _ y20, (World.cell?_setCell_other _ _ _ _ (fun e => by injection e; omega)).trans y4⟩

end St
end Go.Proofs.Ybulkaylc
