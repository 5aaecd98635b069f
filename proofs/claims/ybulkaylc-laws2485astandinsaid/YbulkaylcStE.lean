import Derived.Test.YbulkaylcStD
import Derived.Test.YbulkaylcGrC
namespace Go.Proofs.Ybulkaylc
open Go.RowKit
set_option linter.unusedVariables false
namespace St
open Sw

set_option maxHeartbeats 1000000 in
set_option maxRecDepth 100000 in
theorem unwaited (D C item L WI E n e O ND len LF : Nat) (G : Bool) (w : World) (hD : w.cell? ⟨D, 1, none⟩ = some (.pointer (some ⟨C, 0, none⟩))) (hi : item < n) (he : e < 8) (hlen : e * per G + per G ≤ len) (hCW : C ≠ WI) (rd : Reads w C item L WI E n e O ND len LF G) :
    Calls Yba.prog 9 #[.pointer (some ⟨D, 0, none⟩), .int .i64 item] w fun x w' => x = .returned (.tuple #[]) ∧ Tch (fun x => x = C ∨ x = WI) w w' ∧ w'.cell? ⟨C, 20, none⟩ = some (.slice (some ⟨LF, 0, none⟩) 0 3) ∧ w'.cell? ⟨C, 4, none⟩ = some (.pointer (some ⟨O, 0, none⟩)) := by
  have RD := hide rd
  clear rd
  go_enter Yba.func9, Yba.ntmps9
  go_wp2_with fail
  refine (leave C item L WI E n e O ND len LF G w hi he hlen hCW RD.out).mono ?_
  rintro x W ⟨rfl, t, k20, k4⟩
  go_wp2_with fail
  go_end0
  exact ⟨rfl, t, k20, k4⟩

theorem i119 : (Yba.prog.info? 119).map (fun i => (i.zero.map Value.cells, i.size, decide (i.bytes ≤ 256))) = some (some #[.int .u64 0, .int .i32 0, .int .i32 0], 3, true) := by kernel_rfl

end St
end Go.Proofs.Ybulkaylc
