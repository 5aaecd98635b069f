import Derived.Test.YbulkaykoLyB
namespace Go.Proofs.Ybulkayko
open Go.RowKit
set_option linter.unusedVariables false
namespace Ly

theorem hide {p : Prop} (h : p) : Hid p := h

set_option maxHeartbeats 400000 in
theorem law_long (a0 : Option Addr) (len cap : Nat) (opc dpc si ni mp sls : Int) (w : World) (hl : 4096 < len) (hm : len ≤ maxLen) :
    Calls Yba.prog 4 #[.agg #[.int .u32 opc, .int .u32 dpc, .int .u8 si, .int .u8 ni, .int .u8 mp, .int .u8 sls, .slice a0 len cap]] w fun e w' => e = .returned (.bool true) ∧ Below w.heap.size w w' := by
  unfold maxLen at hm
  go_enter Yba.func4, Yba.ntmps4
  go_wp2
  go_ret
  exact ⟨rfl, (Below.refl _ _).alloc (Nat.le_refl _) _⟩

theorem copy_pos (b off len cap g : Nat) (z f : Nat → Int) (w : World) (hr : Row w g f len) (hg : b ≠ g)
    (hc : ∀ i, i < len → w.cell? ⟨b, off + i, none⟩ = some (.int .u8 (z i))) :
    ∃ w2, Sem.run Yba.prog (Builtin.copy_ #[51, 51] 3 #[.slice (some ⟨g, 0, none⟩) len len, .slice (some ⟨b, off, none⟩) len cap]) w = .ok (.int .i64 len) w2 ∧ Row w2 g z len ∧ Below g w w2 ∧ w2.heap.size = w.heap.size := by
  refine ⟨w.setCells g 0 (cellsOf z len), ?_, ?_, below_setCells (Nat.le_refl _) _ _ _, size_setCells _ _ _ _⟩
  · have h := run_copy_cells (P := Yba.prog) w 51 51 3 5 g 0 len len ⟨b, off, none⟩ len cap (cellsOf z len) Yba.underlying51 (by kernel_rfl) (by rw [cellsOf_length]; exact (Nat.min_self _).symm)
      (fun j v hv => by obtain ⟨hj, rfl⟩ := cellsOf_inv hv; rw [Addr.add_lit]; exact hc j hj) (fun j hj => by rw [cellsOf_length] at hj; rw [Nat.zero_add, hr.cell j hj]; rfl) (fun j _ => hr.free _) cellsOf_one
    rw [h, cellsOf_length]
    rfl
  · have h := hr.setCells z 0 len (by omega)
    refine ⟨h.lt, fun j hj => ?_, h.free⟩
    rw [h.cell j hj]
    show some (Value.int .u8 (if 0 ≤ j ∧ j < 0 + len then z (j - 0) else f j)) = _
    rw [if_pos (by omega)]
    rfl

theorem size5 : ∀ w, (sizeOf (Yba.prog.elem 51)).run Yba.prog w = .ok 1 w := fun _ => by kernel_rfl

theorem slice12 (G n : Nat) (hn : 0 < n) (w : World) :
    Sem.run Yba.prog (Instr.slice 51 (.slice (some ⟨G, 0, none⟩) (12 + n) (12 + n)) (some (.int .i64 12)) none none) w = .ok (.slice (some ⟨G, 12, none⟩) n n) w := by
  have hu : Yba.prog.underlying 51 = some (.slice (Yba.prog.elem 51)) := by kernel_rfl
  rw [run_slice_l w 51 _ _ _ hu .i64 12 (by omega) (by omega), size5]
  have hne : ¬ n = 0 := by omega
  simp [Result.andThen, sliced, Addr.add_lit, hne]

theorem encode' (opc dpc si ni mp sls : Int) (g n : Nat) (z : Nat → Int) (w : World) (h0 : 0 ≤ opc) (h1 : opc < 4294967296) (h2 : 0 ≤ dpc) (h3 : dpc < 4294967296) (hn : n ≤ 4096) (hr : Row w g z n) :
    Calls Yba.prog 9 #[.agg #[.int .u32 opc, .int .u32 dpc, .int .u8 si, .int .u8 ni, .int .u8 mp, .int .u8 sls, .slice (some ⟨g, 0, none⟩) n n]] w fun e w' =>
      ∃ G, e = .returned (.slice (some ⟨G, 0, none⟩) (12 + n) (12 + n)) ∧ Row w' G (encB opc dpc si ni mp sls z n) (12 + n) ∧ Below w.heap.size w w' :=
  (encode opc dpc si ni mp sls g n z w h0 h1 h2 h3 hn hr).mono fun _ _ ⟨he, hr, hb⟩ => ⟨_, he, hr, hb⟩

theorem encB_opc (opc dpc si ni mp sls : Int) (z : Nat → Int) (n k : Nat) (hk : k < 4) : encB opc dpc si ni mp sls z n k = be opc k := by
  match k, hk with
  | 0, _ => simp [encB, upd, put]
  | 1, _ => simp [encB, upd, put]
  | 2, _ => simp [encB, upd, put]
  | 3, _ => simp [encB, upd, put]
theorem encB_dpc (opc dpc si ni mp sls : Int) (z : Nat → Int) (n k : Nat) (hk : k < 4) : encB opc dpc si ni mp sls z n (4 + k) = be dpc k := by
  match k, hk with
  | 0, _ => simp [encB, upd, put]
  | 1, _ => simp [encB, upd, put]
  | 2, _ => simp [encB, upd, put]
  | 3, _ => simp [encB, upd, put]
theorem encB_8 (opc dpc si ni mp sls : Int) (z : Nat → Int) (n : Nat) : encB opc dpc si ni mp sls z n 8 = si := by simp [encB, upd]
theorem encB_9 (opc dpc si ni mp sls : Int) (z : Nat → Int) (n : Nat) : encB opc dpc si ni mp sls z n 9 = ni := by simp [encB, upd]
theorem encB_10 (opc dpc si ni mp sls : Int) (z : Nat → Int) (n : Nat) : encB opc dpc si ni mp sls z n 10 = mp := by simp [encB, upd]
theorem encB_11 (opc dpc si ni mp sls : Int) (z : Nat → Int) (n : Nat) : encB opc dpc si ni mp sls z n 11 = sls := by simp [encB, upd]
theorem encB_data (opc dpc si ni mp sls : Int) (z : Nat → Int) (n j : Nat) (hj : j < n) : encB opc dpc si ni mp sls z n (12 + j) = z j := by
  unfold encB
  rw [if_pos (by omega), Nat.add_sub_cancel_left]

set_option maxHeartbeats 1000000 in
set_option maxRecDepth 100000 in
theorem law_pos (b off len cap : Nat) (z : Nat → Int) (opc dpc si ni mp sls : Int) (w : World) (h0 : 0 ≤ opc) (h1 : opc < 4294967296) (h2 : 0 ≤ dpc) (h3 : dpc < 4294967296) (hl : len ≤ 4096) (hp : 0 < len) (hb : b < w.heap.size)
    (hc : ∀ i, i < len → w.cell? ⟨b, off + i, none⟩ = some (.int .u8 (z i))) :
    Calls Yba.prog 4 #[.agg #[.int .u32 opc, .int .u32 dpc, .int .u8 si, .int .u8 ni, .int .u8 mp, .int .u8 sls, .slice (some ⟨b, off, none⟩) len cap]] w fun e w' => e = .returned (.bool true) ∧ Below w.heap.size w w' := by
  have hmk := run_make_row' (P := Yba.prog) 51 5 (.int .u8 0) 1 Yba.underlying51 info5 rfl .i64 .i64 len (by omega) (by omega)
  have hl' : ¬ 4096 < (len : Int) := by omega
  have hB1 : Below w.heap.size w ((w.alloc (.cells #[.int .u32 opc, .int .u32 dpc, .int .u8 si, .int .u8 ni, .int .u8 mp, .int .u8 sls, .slice (some ⟨b, off, none⟩) len cap] 53)).alloc (.cells (madeCells #[.int .u8 0] len) 5)) :=
    ((Below.refl _ _).alloc (Nat.le_refl _) _).alloc (by simp) _
  have hx1 : Box ((w.alloc (.cells #[.int .u32 opc, .int .u32 dpc, .int .u8 si, .int .u8 ni, .int .u8 mp, .int .u8 sls, .slice (some ⟨b, off, none⟩) len cap] 53)).alloc (.cells (madeCells #[.int .u8 0] len) 5)) w.heap.size (.int .u32 opc) (.int .u32 dpc) (.int .u8 si) (.int .u8 ni) (.int .u8 mp) (.int .u8 sls) (.slice (some ⟨b, off, none⟩) len cap) :=
    (box_made w _ _ _ _ _ _ _ 53).below ((Below.refl (w.heap.size + 1) _).alloc (by simp) _) (by omega)
  have hr1 : Row ((w.alloc (.cells #[.int .u32 opc, .int .u32 dpc, .int .u8 si, .int .u8 ni, .int .u8 mp, .int .u8 sls, .slice (some ⟨b, off, none⟩) len cap] 53)).alloc (.cells (madeCells #[.int .u8 0] len) 5)) (w.heap.size + 1) (fun _ => 0) len := by
    have := row_made (w.alloc (.cells #[.int .u32 opc, .int .u32 dpc, .int .u8 si, .int .u8 ni, .int .u8 mp, .int .u8 sls, .slice (some ⟨b, off, none⟩) len cap] 53)) len 0 5
    simpa using this
  obtain ⟨W2, hcp, hr2, hb2, hs2⟩ := copy_pos b off len cap (w.heap.size + 1) z _ _ hr1 (by omega) (fun i hi => by rw [hB1.cell (p := ⟨b, off + i, none⟩) hb]; exact hc i hi)
  have hB2 := hB1.trans (hb2.mono (Nat.le_succ _))
  have hx2 := hx1.below hb2 (by omega)
  have hs : W2.heap.size = w.heap.size + 2 := by rw [hs2]; simp
  clear hs2 hb2 hr1 hx1 hB1
  have HX := hx2
  obtain ⟨x0, x1, x2, x3, x4, x5, x6⟩ := hx2
  go_enter Yba.func4, Yba.ntmps4
  go_wp2_with fail
  have hx3 := HX.below ((Below.refl (w.heap.size + 1) W2).alloc (by omega) (.cells #[.int .u32 opc, .int .u32 dpc, .int .u8 si, .int .u8 ni, .int .u8 mp, .int .u8 sls, .slice (some ⟨w.heap.size + 1, 0, none⟩) len len] 54)) (by omega)
  have hr3 := hr2.alloc (.cells #[.int .u32 opc, .int .u32 dpc, .int .u8 si, .int .u8 ni, .int .u8 mp, .int .u8 sls, .slice (some ⟨w.heap.size + 1, 0, none⟩) len len] 54)
  have hB3 := hB2.alloc (by omega) (.cells #[.int .u32 opc, .int .u32 dpc, .int .u8 si, .int .u8 ni, .int .u8 mp, .int .u8 sls, .slice (some ⟨w.heap.size + 1, 0, none⟩) len len] 54)
  refine (encode' opc dpc si ni mp sls (w.heap.size + 1) len z _ h0 h1 h2 h3 hl hr3).mono ?_
  rintro e W4 ⟨G, rfl, hr4, hb4⟩
  have hsz : w.heap.size + 2 < (W2.alloc (.cells #[.int .u32 opc, .int .u32 dpc, .int .u8 si, .int .u8 ni, .int .u8 mp, .int .u8 sls, .slice (some ⟨w.heap.size + 1, 0, none⟩) len len] 54)).heap.size := by simp; omega
  have hB4 := hB3.trans (hb4.mono (by omega))
  have hx4 := hx3.below hb4 (by omega)
  clear hsz hb4 hB3 hr3 hx3 x0 x1 x2 x3 x4 x5 x6 HX hs hB2 hr2 hcp hmk
  obtain ⟨x0, x1, x2, x3, x4, x5, x6⟩ := hx4
  go_wp2_with fail
  go_loopw [6] (fun i wr => ∃ k m : Nat, k ≤ 4 ∧ i = .int .i64 k ∧ wr = W4.drewN m) (fun i _ => 4 - (intOf i).toNat)
  case atStart => exact ⟨0, 0, Nat.zero_le _, rfl, rfl⟩
  case round =>
    obtain ⟨k, m, hk, rfl, hwr⟩ := hrel
    have hr5 : Row wr G (encB opc dpc si ni mp sls z len) (12 + len) := by rw [hwr]; exact ⟨hr4.lt, hr4.cell, hr4.free⟩
    have hx5 : Box wr w.heap.size (.int .u32 opc) (.int .u32 dpc) (.int .u8 si) (.int .u8 ni) (.int .u8 mp) (.int .u8 sls) (.slice (some ⟨b, off, none⟩) len cap) := by rw [hwr]; exact ⟨x0, x1, x2, x3, x4, x5, x6⟩
    have hB5 : Below w.heap.size w wr := by rw [hwr]; exact ⟨hB4.os, hB4.tape, hB4.output, hB4.size, hB4.block⟩
    have HW : Hid (wr = W4.drewN m) := hwr
    clear hwr x0 x1 x2 x3 x4 x5 x6 hr4 hB4
    obtain ⟨x0, x1, x2, x3, x4, x5, x6⟩ := hx5
    by_cases hlt : k < 4
    · have g1 := hr5.cell k (by omega)
      have g2 := hr5.cell (4 + k) (by omega)
      rw [encB_opc _ _ _ _ _ _ _ _ k hlt] at g1
      rw [encB_dpc _ _ _ _ _ _ _ _ k hlt] at g2
      have hi1 : (k : Int) < 12 + (len : Int) := by omega
      have hi2 : 4 + (k : Int) < 12 + (len : Int) := by omega
      go_wp2_with fail
      go_quiet ((go_at_call 10; exact Calls.quiet_of_same (be_any _ _ _ (by assumption) (by assumption) (by assumption))))
      go_wp2_with fail
      go_roundw
      case rel => exact ⟨k + 1, m + nq, by omega, by go_num, by rw [HW.out, World.drewN_drewN]⟩
      case measure => simp [intOf]; omega
    · have g8 := hr5.cell 8 (by omega)
      have g9 := hr5.cell 9 (by omega)
      have g10 := hr5.cell 10 (by omega)
      have g11 := hr5.cell 11 (by omega)
      rw [encB_8] at g8
      rw [encB_9] at g9
      rw [encB_10] at g10
      rw [encB_11] at g11
      have hi8 : (8 : Int) < 12 + (len : Int) := by omega
      have hi9 : (9 : Int) < 12 + (len : Int) := by omega
      have hi10 : (10 : Int) < 12 + (len : Int) := by omega
      have hi11 : (11 : Int) < 12 + (len : Int) := by omega
      have hne : ¬ 12 + len = 12 := by omega
      have hd : ∀ nn j, j < len → (wr.drewN nn).cell? ⟨b, off + j, none⟩ = some (.int .u8 (z j)) := fun nn j hj => by
        rw [show (wr.drewN nn).cell? ⟨b, off + j, none⟩ = wr.cell? ⟨b, off + j, none⟩ from rfl, hB5.cell (p := ⟨b, off + j, none⟩) hb]; exact hc j hj
      have he : ∀ nn j, j < len → (wr.drewN nn).cell? ⟨G, 12 + j, none⟩ = some (.int .u8 (z j)) := fun nn j hj => by
        rw [show (wr.drewN nn).cell? ⟨G, 12 + j, none⟩ = wr.cell? ⟨G, 12 + j, none⟩ from rfl, hr5.cell (12 + j) (by omega), encB_data _ _ _ _ _ _ _ _ j hj]
      have HD := hide hd
      have HE := hide he
      clear hd he hc
      go_wp2_with fail
      go_quiet (fail)
      go_wp2_with fail
      have y6 : (wr.drewN nq).cell? ⟨w.heap.size, 6, none⟩ = some (.slice (some ⟨b, off, none⟩) len cap) := x6
      have hB6 : Below w.heap.size w (wr.drewN nq) := ⟨hB5.os, hB5.tape, hB5.output, hB5.size, hB5.block⟩
      have HD' : Hid (∀ nn j, j < len → ((wr.drewN nq).drewN nn).cell? ⟨b, off + j, none⟩ = some (.int .u8 (z j))) := fun nn => HD.out nn
      have HE' : Hid (∀ nn j, j < len → ((wr.drewN nq).drewN nn).cell? ⟨G, 12 + j, none⟩ = some (.int .u8 (z j))) := fun nn => HE.out nn
      clear HD HE HW hB5 hr5 g8 g9 g10 g11 x0 x1 x2 x3 x4 x5 x6 hi8 hi9 hi10 hi11 hne
      generalize wr.drewN nq = W6 at *
      have hsl := slice12 G len hp
      go_quiet ((go_at_call 11; exact Calls.quiet_of (eq_same _ _ _ _ _ _ _ _ _ (by assumption) (HE'.out _) (HD'.out _))))
      go_wp2_with fail
      go_ret
      exact ⟨rfl, ⟨hB6.os, hB6.tape, hB6.output, hB6.size, hB6.block⟩⟩

theorem encode0 (opc dpc si ni mp sls : Int) (g : Nat) (w : World) (h0 : 0 ≤ opc) (h1 : opc < 4294967296) (h2 : 0 ≤ dpc) (h3 : dpc < 4294967296) (hr : Row w g (fun _ => 0) 0) :
    Calls Yba.prog 9 #[.agg #[.int .u32 opc, .int .u32 dpc, .int .u8 si, .int .u8 ni, .int .u8 mp, .int .u8 sls, .slice (some ⟨g, 0, none⟩) 0 0]] w fun e w' =>
      ∃ G, e = .returned (.slice (some ⟨G, 0, none⟩) 12 12) ∧ Row w' G (encB opc dpc si ni mp sls (fun _ => 0) 0) 12 ∧ Below w.heap.size w w' :=
  encode' opc dpc si ni mp sls g 0 (fun _ => 0) w h0 h1 h2 h3 (by omega) hr

set_option maxHeartbeats 1000000 in
set_option maxRecDepth 100000 in
theorem law_zero (a0 : Option Addr) (cap : Nat) (opc dpc si ni mp sls : Int) (w : World) (h0 : 0 ≤ opc) (h1 : opc < 4294967296) (h2 : 0 ≤ dpc) (h3 : dpc < 4294967296)  :
    Calls Yba.prog 4 #[.agg #[.int .u32 opc, .int .u32 dpc, .int .u8 si, .int .u8 ni, .int .u8 mp, .int .u8 sls, .slice a0 0 cap]] w fun e w' => e = .returned (.bool true) ∧ Below w.heap.size w w' := by
  have hmk : ∀ w, (Instr.makeSlice 51 (.int .i64 0) (.int .i64 0)).run Yba.prog w = .ok (.slice (some ⟨w.heap.size, 0, none⟩) 0 0) (w.alloc (.cells #[] 5)) := fun _ => by kernel_rfl
  have hcp : ∀ (w : World) (g : Nat), Sem.run Yba.prog (Builtin.copy_ #[51, 51] 3 #[.slice (some ⟨g, 0, none⟩) 0 0, .slice a0 0 cap]) w = .ok (.int .i64 0) w := fun w g =>
    run_copy_none (P := Yba.prog) w 51 51 3 5 (some ⟨g, 0, none⟩) a0 0 0 0 cap Yba.underlying51 (by kernel_rfl) rfl
  have hB2 : Below w.heap.size w ((w.alloc (.cells #[.int .u32 opc, .int .u32 dpc, .int .u8 si, .int .u8 ni, .int .u8 mp, .int .u8 sls, .slice a0 0 cap] 53)).alloc (.cells #[] 5)) :=
    ((Below.refl _ _).alloc (Nat.le_refl _) _).alloc (by simp) _
  have hx2 : Box ((w.alloc (.cells #[.int .u32 opc, .int .u32 dpc, .int .u8 si, .int .u8 ni, .int .u8 mp, .int .u8 sls, .slice a0 0 cap] 53)).alloc (.cells #[] 5)) w.heap.size (.int .u32 opc) (.int .u32 dpc) (.int .u8 si) (.int .u8 ni) (.int .u8 mp) (.int .u8 sls) (.slice a0 0 cap) :=
    (box_made w _ _ _ _ _ _ _ 53).below ((Below.refl (w.heap.size + 1) _).alloc (by simp) _) (by omega)
  have hr2 : Row ((w.alloc (.cells #[.int .u32 opc, .int .u32 dpc, .int .u8 si, .int .u8 ni, .int .u8 mp, .int .u8 sls, .slice a0 0 cap] 53)).alloc (.cells #[] 5)) (w.heap.size + 1) (fun _ => 0) 0 := by
    refine ⟨by simp, fun j hj => absurd hj (Nat.not_lt_zero _), fun j => ?_⟩
    have hbn := block_new (w.alloc (.cells #[.int .u32 opc, .int .u32 dpc, .int .u8 si, .int .u8 ni, .int .u8 mp, .int .u8 sls, .slice a0 0 cap] 53)) (.cells #[] 5)
    rw [show (w.alloc (.cells #[.int .u32 opc, .int .u32 dpc, .int .u8 si, .int .u8 ni, .int .u8 mp, .int .u8 sls, .slice a0 0 cap] 53)).heap.size = w.heap.size + 1 by simp] at hbn
    unfold World.frozen?
    rw [hbn]
    simp
  obtain ⟨W2, hW2⟩ : ∃ W2, W2 = ((w.alloc (.cells #[.int .u32 opc, .int .u32 dpc, .int .u8 si, .int .u8 ni, .int .u8 mp, .int .u8 sls, .slice a0 0 cap] 53)).alloc (.cells #[] 5)) := ⟨_, rfl⟩
  rw [← hW2] at hB2 hx2 hr2
  have hs : W2.heap.size = w.heap.size + 2 := by rw [hW2]; simp
  have hcp' : Sem.run Yba.prog (Builtin.copy_ #[51, 51] 3 #[.slice (some ⟨w.heap.size + 1, 0, none⟩) 0 0, .slice a0 0 cap]) ((w.alloc (.cells #[.int .u32 opc, .int .u32 dpc, .int .u8 si, .int .u8 ni, .int .u8 mp, .int .u8 sls, .slice a0 0 cap] 53)).alloc (.cells #[] 5)) = .ok (.int .i64 0) W2 := by
    rw [hcp, hW2]
  clear hcp hW2
  have HX := hx2
  obtain ⟨x0, x1, x2, x3, x4, x5, x6⟩ := hx2
  go_enter Yba.func4, Yba.ntmps4
  go_wp2_with fail
  have hx3 := HX.below ((Below.refl (w.heap.size + 1) W2).alloc (by omega) (.cells #[.int .u32 opc, .int .u32 dpc, .int .u8 si, .int .u8 ni, .int .u8 mp, .int .u8 sls, .slice (some ⟨w.heap.size + 1, 0, none⟩) 0 0] 54)) (by omega)
  have hr3 := hr2.alloc (.cells #[.int .u32 opc, .int .u32 dpc, .int .u8 si, .int .u8 ni, .int .u8 mp, .int .u8 sls, .slice (some ⟨w.heap.size + 1, 0, none⟩) 0 0] 54)
  have hB3 := hB2.alloc (by omega) (.cells #[.int .u32 opc, .int .u32 dpc, .int .u8 si, .int .u8 ni, .int .u8 mp, .int .u8 sls, .slice (some ⟨w.heap.size + 1, 0, none⟩) 0 0] 54)
  refine (encode0 opc dpc si ni mp sls (w.heap.size + 1) _ h0 h1 h2 h3 hr3).mono ?_
  rintro e W4 ⟨G, rfl, hr4, hb4⟩
  have hsz : w.heap.size + 2 < (W2.alloc (.cells #[.int .u32 opc, .int .u32 dpc, .int .u8 si, .int .u8 ni, .int .u8 mp, .int .u8 sls, .slice (some ⟨w.heap.size + 1, 0, none⟩) 0 0] 54)).heap.size := by simp; omega
  have hB4 := hB3.trans (hb4.mono (by omega))
  have hx4 := hx3.below hb4 (by omega)
  clear hsz hb4 hB3 hr3 hx3 x0 x1 x2 x3 x4 x5 x6 HX hs hB2 hr2 hcp' hmk
  obtain ⟨x0, x1, x2, x3, x4, x5, x6⟩ := hx4
  go_wp2_with fail
  go_loopw [6] (fun i wr => ∃ k m : Nat, k ≤ 4 ∧ i = .int .i64 k ∧ wr = W4.drewN m) (fun i _ => 4 - (intOf i).toNat)
  case atStart => exact ⟨0, 0, Nat.zero_le _, rfl, rfl⟩
  case round =>
    obtain ⟨k, m, hk, rfl, hwr⟩ := hrel
    have hr5 : Row wr G (encB opc dpc si ni mp sls (fun _ => 0) 0) 12 := by rw [hwr]; exact ⟨hr4.lt, hr4.cell, hr4.free⟩
    have hx5 : Box wr w.heap.size (.int .u32 opc) (.int .u32 dpc) (.int .u8 si) (.int .u8 ni) (.int .u8 mp) (.int .u8 sls) (.slice a0 0 cap) := by rw [hwr]; exact ⟨x0, x1, x2, x3, x4, x5, x6⟩
    have hB5 : Below w.heap.size w wr := by rw [hwr]; exact ⟨hB4.os, hB4.tape, hB4.output, hB4.size, hB4.block⟩
    have HW : Hid (wr = W4.drewN m) := hwr
    clear hwr x0 x1 x2 x3 x4 x5 x6 hr4 hB4
    obtain ⟨x0, x1, x2, x3, x4, x5, x6⟩ := hx5
    by_cases hlt : k < 4
    · have g1 := hr5.cell k (by omega)
      have g2 := hr5.cell (4 + k) (by omega)
      rw [encB_opc _ _ _ _ _ _ _ _ k hlt] at g1
      rw [encB_dpc _ _ _ _ _ _ _ _ k hlt] at g2
      have hi1 : (k : Int) < 12 := by omega
      have hi2 : 4 + (k : Int) < 12 := by omega
      go_wp2_with fail
      go_quiet ((go_at_call 10; exact Calls.quiet_of_same (be_any _ _ _ (by assumption) (by assumption) (by assumption))))
      go_wp2_with fail
      go_roundw
      case rel => exact ⟨k + 1, m + nq, by omega, by go_num, by rw [HW.out, World.drewN_drewN]⟩
      case measure => simp [intOf]; omega
    · have g8 := hr5.cell 8 (by omega)
      have g9 := hr5.cell 9 (by omega)
      have g10 := hr5.cell 10 (by omega)
      have g11 := hr5.cell 11 (by omega)
      rw [encB_8] at g8
      rw [encB_9] at g9
      rw [encB_10] at g10
      rw [encB_11] at g11
      go_wp2_with fail
      go_quiet (fail)
      go_wp2_with fail
      have y6 : (wr.drewN nq).cell? ⟨w.heap.size, 6, none⟩ = some (.slice a0 0 cap) := x6
      have hB6 : Below w.heap.size w (wr.drewN nq) := ⟨hB5.os, hB5.tape, hB5.output, hB5.size, hB5.block⟩
      clear HW hB5 hr5 g8 g9 g10 g11 x0 x1 x2 x3 x4 x5 x6
      generalize wr.drewN nq = W6 at *
      go_quiet ((go_at_call 11; exact Calls.quiet_of (eq_empty _ _ _ _ _)))
      go_wp2_with fail
      go_ret
      exact ⟨rfl, ⟨hB6.os, hB6.tape, hB6.output, hB6.size, hB6.block⟩⟩

end Ly
end Go.Proofs.Ybulkayko
