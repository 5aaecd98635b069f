import Derived.Test.YbulkaylcRows
import Derived.WalkKit
import Derived.WalkSpells
import Derived.WalkLawsBesides
import Derived.Deep.QuietTactic
import Derived.BigQuiet
namespace Go.Proofs.Ybulkaylc
open Go.RowKit
set_option linter.unusedVariables false
namespace Sw

theorem hide {p : Prop} (h : p) : Hid p := h

set_option maxHeartbeats 400000 in
theorem entryOf (WI E len cap : Nat) (w : World) (c0 : w.cell? ⟨WI, 0, none⟩ = some (.slice (some ⟨E, 0, none⟩) (len + 1) cap)) (cE : w.cell? ⟨E, 0, none⟩ = some (.int .i32 1)) :
    Calls Yba.prog 13 #[.pointer (some ⟨WI, 0, none⟩), .int .i64 0] w fun e w' => e = .returned (.int .i64 1) ∧ w' = w := by
  have h : (0 : Int) < (len : Int) + 1 := by omega
  go_enter Yba.func13, Yba.ntmps13
  go_wp2
  go_ret
  exact ⟨rfl, rfl⟩

set_option maxHeartbeats 800000 in
set_option maxRecDepth 100000 in
theorem lookup (T o U : Nat) (w : World) (cT : w.cell? ⟨T, o, none⟩ = some (.slice (some ⟨U, 0, none⟩) 1 1)) (cU : w.cell? ⟨U, 0, none⟩ = some (.int .i32 0)) :
    Calls Yba.prog 32 #[.pointer (some ⟨T, o, none⟩), .int .i64 0] w fun e w' => e = .returned (.tuple #[.int .i64 0, .bool true]) ∧ ∃ n, w' = w.drewN n := by
  go_enter Yba.func32, Yba.ntmps32
  go_wp2_with fail
  go_quiet (fail)
  go_wp2_with fail
  generalize hW : w.drewN nq = W1 at *
  have dT : W1.cell? ⟨T, o, none⟩ = some (.slice (some ⟨U, 0, none⟩) 1 1) := by rw [← hW]; exact cT
  have dU : W1.cell? ⟨U, 0, none⟩ = some (.int .i32 0) := by rw [← hW]; exact cU
  have HW : Hid (∃ m, W1 = w.drewN m) := ⟨nq, hW.symm⟩
  clear hW cT cU
  go_loop [6, 7] (fun lo hi => lo = .int .i64 0 ∧ (hi = .int .i64 1 ∨ hi = .int .i64 0)) (fun _ hi => (intOf hi).toNat)
  case atStart => exact ⟨rfl, Or.inl rfl⟩
  case round =>
    obtain ⟨rfl, rfl | rfl⟩ := hrel
    · go_wp2_with fail
      go_round
      case rel => exact ⟨rfl, Or.inr rfl⟩
      case measure => simp [intOf]
    · go_wp2_with fail
      go_quiet (fail)
      go_wp2_with fail
      go_ret2
      obtain ⟨m, hm⟩ := HW.out
      exact ⟨rfl, m + nq, by rw [hm, World.drewN_drewN]⟩

set_option maxHeartbeats 400000 in
theorem useIndex (T o U : Nat) (w : World) (cT : w.cell? ⟨T, o, none⟩ = some (.slice (some ⟨U, 0, none⟩) 1 1)) (cU : w.cell? ⟨U, 0, none⟩ = some (.int .i32 0)) :
    Calls Yba.prog 27 #[.pointer (some ⟨T, o, none⟩), .int .i64 0] w fun e w' => e = .returned (.int .i64 0) ∧ ∃ n, w' = w.drewN n := by
  go_enter Yba.func27, Yba.ntmps27
  go_wp2_with fail
  refine (lookup T o U w cT cU).mono ?_
  rintro e w1 ⟨rfl, n, rfl⟩
  go_wp2_with fail
  go_ret
  exact ⟨rfl, n, rfl⟩

set_option maxHeartbeats 400000 in
theorem use (T o U : Nat) (w : World) (cT : w.cell? ⟨T, o, none⟩ = some (.slice (some ⟨U, 0, none⟩) 1 1)) (cU : w.cell? ⟨U, 0, none⟩ = some (.int .i32 0)) :
    Calls Yba.prog 21 #[.pointer (some ⟨T, o, none⟩), .int .i64 0] w fun e w' => e = .returned (.pointer (some ⟨U, 0, none⟩)) ∧ ∃ n, w' = w.drewN n := by
  go_enter Yba.func21, Yba.ntmps21
  go_wp2_with fail
  go_quiet ((go_at_call 27; exact Calls.quiet_of (useIndex T o U _ cT cU)))
  go_wp2_with fail
  go_ret
  exact ⟨rfl, nq, rfl⟩

end Sw
end Go.Proofs.Ybulkaylc
