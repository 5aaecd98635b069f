import Derived.Test.YbulkaylcStC
namespace Go.Proofs.Ybulkaylc
open Go.RowKit
set_option linter.unusedVariables false
namespace St
open Sw

structure Reads (w : World) (C item L WI E n e O ND len LF : Nat) (G : Bool) : Prop where
  c20 : w.cell? ⟨C, 20, none⟩ = some (.slice (some ⟨LF, 0, none⟩) 3 3)
  f20 : w.frozen? ⟨C, 20, none⟩ = false
  c0 : w.cell? ⟨C, 0, none⟩ = some (.pointer (some ⟨L, 0, none⟩))
  c4 : w.cell? ⟨C, 4, none⟩ = some (.pointer (some ⟨O, 0, none⟩))
  cO : w.cell? ⟨O, 0, none⟩ = some (.slice (some ⟨ND, 0, none⟩) len len)
  cN : ∀ t, t < len → w.cell? ⟨ND, t * 3, none⟩ = some (.int .u64 0)
  cG : w.cell? ⟨L, 7, none⟩ = some (.bool G)
  cL : w.cell? ⟨L, 17, none⟩ = some (.pointer (some ⟨WI, 0, none⟩))
  cW0 : w.cell? ⟨WI, 0, none⟩ = some (.slice (some ⟨E, 0, none⟩) n n)
  cE : w.cell? ⟨E, item, none⟩ = some (.int .i32 e)
  cW : w.cell? ⟨WI, 11, none⟩ = some (.slice none 0 0)
  fW : w.frozen? ⟨WI, 11, none⟩ = false

theorem Reads.tch {S : Nat → Prop} {w w' : World} {C item L WI E n e O ND len LF : Nat} {G : Bool} (h : Reads w C item L WI E n e O ND len LF G) (t : Tch S w w') (hs : ∀ x, x < w.heap.size → ¬ S x) : Reads w' C item L WI E n e O ND len LF G := by
  have hc : ∀ {a : Addr} {v : Value}, w.cell? a = some v → w'.cell? a = some v := fun h => t.cell h (hs _ (lt_of_cell h))
  exact ⟨hc h.c20, (World.frozen?_of_block (w := w) (a := ⟨C, 20, none⟩) (t.block C (lt_of_cell (p := ⟨C, 20, none⟩) h.c20) (hs _ (lt_of_cell (p := ⟨C, 20, none⟩) h.c20)))).trans h.f20, hc h.c0, hc h.c4, hc h.cO, fun t ht => hc (h.cN t ht), hc h.cG, hc h.cL, hc h.cW0, hc h.cE, hc h.cW,
    (World.frozen?_of_block (w := w) (a := ⟨WI, 11, none⟩) (t.block WI (lt_of_cell (p := ⟨WI, 11, none⟩) h.cW) (hs _ (lt_of_cell (p := ⟨WI, 11, none⟩) h.cW)))).trans h.fW⟩

set_option maxHeartbeats 1000000 in
set_option maxRecDepth 100000 in
theorem leave (C item L WI E n e O ND len LF : Nat) (G : Bool) (w : World) (hi : item < n) (he : e < 8) (hlen : e * per G + per G ≤ len) (hCW : C ≠ WI) (rd : Reads w C item L WI E n e O ND len LF G) :
    Calls Yba.prog 12 #[.pointer (some ⟨C, 0, none⟩), .int .i64 item] w fun x w' => x = .returned (.tuple #[]) ∧ Tch (fun x => x = C ∨ x = WI) w w' ∧ w'.cell? ⟨C, 20, none⟩ = some (.slice (some ⟨LF, 0, none⟩) 0 3) ∧ w'.cell? ⟨C, 4, none⟩ = some (.pointer (some ⟨O, 0, none⟩)) := by
  have c0 := rd.c0
  have lC : C < w.heap.size := lt_of_cell (p := ⟨C, 0, none⟩) c0
  have RD := hide rd
  clear rd
  go_enter Yba.func12, Yba.ntmps12
  go_upto_region 2 with (fail)
  have bA := block_new w (.cells #[.int .i64 0, .int .i64 0, .int .i64 0, .int .i64 0, .int .i64 0] 106)
  have tA : Tch (fun x => x = w.heap.size) w (w.alloc (.cells #[.int .i64 0, .int .i64 0, .int .i64 0, .int .i64 0, .int .i64 0] 106)) := (Tch.refl _ w).alloc _
  have thA : There (w.alloc (.cells #[.int .i64 0, .int .i64 0, .int .i64 0, .int .i64 0, .int .i64 0] 106)) w.heap.size 5 := fun j hj => by
    rw [cell_block bA j]
    match j, hj with
    | 0, _ => exact ⟨_, rfl⟩
    | 1, _ => exact ⟨_, rfl⟩
    | 2, _ => exact ⟨_, rfl⟩
    | 3, _ => exact ⟨_, rfl⟩
    | 4, _ => exact ⟨_, rfl⟩
  have THA := hide thA
  have FA := hide (free_made bA)
  have TA := hide tA
  have RD1 := hide (RD.out.tch tA (fun x hx e => by omega))
  have d0 := RD1.out.c0
  clear c0 bA thA tA
  generalize w.alloc (.cells #[.int .i64 0, .int .i64 0, .int .i64 0, .int .i64 0, .int .i64 0] 106) = W1 at *
  generalize hA : w.heap.size = A at *
  go_wp2_with fail
  refine (gpi L G W1 RD1.out.cG).mono ?_
  rintro x W2 ⟨rfl, rfl⟩
  have hp5 : per G ≤ 5 := by cases G <;> simp [per]
  go_wp2_with fail
  go_loopw [5, 13] (fun sl ii wx => ∃ i : Nat, i ≤ per G ∧ ii = .int .i64 i ∧ sl = .slice (some ⟨A, 0, none⟩) i 5 ∧ Tch (fun x => x = A) w wx ∧ There wx A 5 ∧ Free wx A ∧ ∀ q, q < i → wx.cell? ⟨A, q, none⟩ = some (.int .i64 ((e * per G + q : Nat) : Int))) (fun _ ii _ => per G - (intOf ii).toNat)
  case atStart => exact ⟨0, by omega, rfl, rfl, TA.out, THA.out, FA.out, fun q hq => by omega⟩
  case round =>
    obtain ⟨i, hik, rfl, rfl, tw, th, fr, cq⟩ := hrel
    have rdr := RD.out.tch tw (fun x hx e => by omega)
    have hAw : A < wr.heap.size := by obtain ⟨y, hy⟩ := th 0 (by omega); exact lt_of_cell (p := ⟨A, 0, none⟩) hy
    have TW := hide tw
    have TH := hide th
    have FR := hide fr
    have CQ := hide cq
    have RDR := hide rdr
    have e0 := rdr.c0
    clear tw th fr cq rdr d0
    by_cases hlt : i < per G
    · have hiI : (i : Int) < ((per G : Nat) : Int) := by omega
      have hi5 : (i : Int) < 5 := by omega
      go_wp2_with fail
      refine (itemGroup L WI E n item e i G wr hi he (by omega) RDR.out.cG RDR.out.cL RDR.out.cW0 RDR.out.cE).mono ?_
      rintro x W3 ⟨rfl, rfl⟩
      have CV : Hid (e * per G + i = e * per G + i) := rfl
      generalize hv : e * per G + i = v at *
      have hT := cell_block (block_new W3 (.cells #[.int .i64 v] 3)) 0
      have tB : Tch (fun x => x = A) W3 (W3.alloc (.cells #[.int .i64 v] 3)) := (Tch.refl _ W3).alloc _
      obtain ⟨y, hy⟩ := TH.out i (by omega)
      have thB : There (W3.alloc (.cells #[.int .i64 v] 3)) A 5 := TH.out.alloc _
      have frB : Free (W3.alloc (.cells #[.int .i64 v] 3)) A := Free.alloc FR.out hAw _
      have happ := fun ty => app32 (W3.alloc (.cells #[.int .i64 v] 3)) A i 5 W3.heap.size v (by omega) (thB i (by omega)) (frB i) hT ty
      have HAPP := hide happ
      have CQB : Hid (∀ q, q < i → (W3.alloc (.cells #[.int .i64 v] 3)).cell? ⟨A, q, none⟩ = some (.int .i64 ((e * per G + q : Nat) : Int))) := fun q hq => by
        rw [World.cell?_of_block (w := W3) (Below.heap_alloc _ _ _ hAw)]; exact CQ.out q hq
      have HTB := hide tB
      have THB := hide thB
      have FRB := hide frB
      have HY : Hid (∃ y, (W3.alloc (.cells #[.int .i64 v] 3)).cell? ⟨A, i, none⟩ = some y) := thB i (by omega)
      clear happ tB hT hy thB frB
      go_wp2_with (first | (at_builtin; refine Lib.wpList_append_run _ rfl _ _ 32 32 rfl _ _ rfl rfl _ _ (HAPP.out _) ?_) | fail)
      go_roundw
      case rel =>
        have hAs : A < (W3.setCell ⟨A, i, none⟩ (.int .i64 v)).heap.size := by simpa [World.setCell] using hAw
        refine ⟨i + 1, by omega, by go_num, rfl, (TW.out.setCell (p := ⟨A, i, none⟩) rfl _).alloc _, (TH.out.set _ _).alloc _, Free.alloc (FR.out.set _ _) hAs _, fun q hq => ?_⟩
        rw [World.cell?_of_block (w := W3.setCell ⟨A, i, none⟩ (.int .i64 v)) (Below.heap_alloc _ _ _ hAs)]
        by_cases eq : q = i
        · subst eq
          obtain ⟨y, hy⟩ := TH.out q (by omega)
          rw [hv]
          exact World.cell?_setCell_same _ _ _ hy
        · rw [World.cell?_setCell_other _ _ _ _ (fun e' => by injection e'; omega)]
          exact CQ.out q (by omega)
      case measure => simp [intOf]; omega
    · have hge : ¬ (i : Int) < ((per G : Nat) : Int) := by omega
      obtain rfl : i = per G := by omega
      go_wp2_with fail
      have rr := RDR.out
      refine (takeOut C A (per G) 5 L WI O ND len LF (fun q => e * per G + q) wr hp5 (fun q hq => by show e * per G + q < len; omega) CQ.out rr.c20 rr.f20 rr.c0 rr.c4 rr.cO rr.cN rr.cL rr.cW rr.fW hCW).mono ?_
      rintro x W4 ⟨rfl, t4, k20, k4⟩
      go_wp2_with fail
      go_end0
      refine ⟨rfl, ?_, k20, k4⟩
      have tw := TW.out
      exact ⟨t4.os.trans tw.os, t4.tape.trans tw.tape, t4.output.trans tw.output, Nat.le_trans tw.size t4.size, fun z hz hs => (t4.block z (Nat.lt_of_lt_of_le hz tw.size) hs).trans (tw.block z hz (by omega))⟩

end St
end Go.Proofs.Ybulkaylc
