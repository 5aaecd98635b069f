import Derived.Test.YbulkaykoRdA
namespace Go.Proofs.Ybulkayko
open Go.RowKit
set_option linter.unusedVariables false
namespace Rd

set_option maxRecDepth 100000 in
set_option maxHeartbeats 800000 in
theorem mtry (S : Nat) (w : World) (rc : Int) (h : Lk w S 0 rc) :
    Calls Yba.prog 16 #[.pointer (some ⟨S, 9, none⟩)] w fun e w' => e = .returned (.bool true) ∧ w' = w.setCell ⟨S, 9, none⟩ (.int .i32 1) := by
  go_enter Yba.func16, Yba.ntmps16
  go_wp2_with fail
  refine (itry S w rc h).mono ?_
  rintro e w' ⟨rfl, rfl⟩
  go_wp2_with fail
  go_ret
  exact ⟨rfl, rfl⟩

set_option maxRecDepth 100000 in
set_option maxHeartbeats 800000 in
theorem munlock (S : Nat) (w : World) (rc : Int) (h : Lk w S 1 rc) :
    Calls Yba.prog 19 #[.pointer (some ⟨S, 9, none⟩)] w fun e w' => e = .returned (.tuple #[]) ∧ w' = w.setCell ⟨S, 9, none⟩ (.int .i32 0) := by
  go_enter Yba.func19, Yba.ntmps19
  go_wp2_with fail
  refine (iunlock S w rc h).mono ?_
  rintro e w' ⟨rfl, rfl⟩
  go_wp2_with fail
  go_end0
  exact ⟨rfl, rfl⟩

set_option maxRecDepth 100000 in
set_option maxHeartbeats 800000 in
theorem try_busy (S : Nat) (w : World) (h : Lk w S 0 1) :
    Calls Yba.prog 7 #[.pointer (some ⟨S, 9, none⟩)] w fun e w' => e = .returned (.bool false) ∧ Lk w' S 0 1 ∧ Kp S w w' := by
  have h1 := raceRead
  have h2 := disable
  have h3 := enable
  have h4 := acquire
  have v0 := conv62 h.c9
  have k1 := h.set9 1
  have hcas := cas_miss (o := 0) (-1073741824) k1.c13 (k1.fz 13) (by omega)
  have HK := k1
  have H := h
  clear k1 h
  go_enter Yba.func7, Yba.ntmps7
  go_wp2_with (first | (go_at_call 16; refine (mtry S _ 1 H).mono ?_; rintro e w' ⟨rfl, rfl⟩) | (go_at_call 19; refine (munlock S _ 1 HK).mono ?_; rintro e w' ⟨rfl, rfl⟩) | (go_at_call 18; go_in))
  go_ret
  exact ⟨rfl, HK.set9 0, (Kp.set9 S w _).trans (Kp.set9 S _ _)⟩

set_option maxRecDepth 100000 in
set_option maxHeartbeats 800000 in
theorem try_free (S : Nat) (w : World) (h : Lk w S 0 0) :
    Calls Yba.prog 7 #[.pointer (some ⟨S, 9, none⟩)] w fun e w' => e = .returned (.bool true) ∧ Lk w' S 1 (-1073741824) ∧ Kp S w w' := by
  have h1 := raceRead
  have h2 := disable
  have h3 := enable
  have h4 := acquire
  have v0 := conv62 h.c9
  have k1 := h.set9 1
  have hcas := cas_hit (-1073741824) k1.c13 (k1.fz 13)
  have k2 := k1.set13 (-1073741824)
  obtain ⟨x11, c11⟩ := k2.c11
  obtain ⟨x12, c12⟩ := k2.c12
  have v11 := conv64 c11
  have v12 := conv64 c12
  have HK := k2
  have H := h
  clear k1 k2 h
  go_enter Yba.func7, Yba.ntmps7
  go_wp2_with (first | (go_at_call 16; refine (mtry S _ 0 H).mono ?_; rintro e w' ⟨rfl, rfl⟩) | (go_at_call 18; go_in))
  go_ret
  exact ⟨rfl, HK, (Kp.set9 S w _).trans (Kp.set13 S _ _)⟩

set_option maxRecDepth 100000 in
set_option maxHeartbeats 800000 in
theorem unlock (S : Nat) (w : World) (h : Lk w S 1 (-1073741824)) :
    Calls Yba.prog 8 #[.pointer (some ⟨S, 9, none⟩)] w fun e w' => e = .returned (.tuple #[]) ∧ Lk w' S 0 0 ∧ Kp S w w' := by
  have h1 := raceRead
  have h2 := disable
  have h3 := enable
  have h4 := release
  have h5 := releaseMerge
  have v0 := conv62 h.c9
  obtain ⟨x11, c11⟩ := h.c11
  obtain ⟨x12, c12⟩ := h.c12
  have v11 := conv64 c11
  have v12 := conv64 c12
  have hadd := add32 (y := 1073741824) (s := 0) h.c13 (h.fz 13) (by simp [go_sem, IntKind.wrap_i32])
  have HK := h.set13 0
  clear h
  go_enter Yba.func8, Yba.ntmps8
  go_wp2_with (first | (go_at_call 19; refine (munlock S _ 0 HK).mono ?_; rintro e w' ⟨rfl, rfl⟩) | (go_at_call 23; go_in))
  go_loop [3] (fun i => i = .int .i64 0) (fun _ => 0)
  case atStart => rfl
  case round =>
    obtain rfl := hrel
    go_wp2_with (first | (go_at_call 19; refine (munlock S _ 0 HK).mono ?_; rintro e w' ⟨rfl, rfl⟩) | (go_at_call 23; go_in))
    go_end0
    exact ⟨rfl, HK.set9 0, (Kp.set13 S w _).trans (Kp.set9 S _ _)⟩

end Rd
end Go.Proofs.Ybulkayko
