import Derived.Test.YbulkaylcStB
import Derived.ArgAppend
import Derived.Lib.AppendZeros
namespace Go.Proofs.Ybulkaylc
open Go.RowKit
set_option linter.unusedVariables false
namespace St
open Sw

theorem i3 : (Yba.prog.info? 3).map (fun i => (i.zero, i.size, decide (i.bytes ≤ 256))) = some (some (.int .i64 0), 1, true) := by kernel_rfl

/-- An append with room, of one int. -/
theorem app32 (W : World) (A c n T v : Nat) (hc : c < n) (hA : ∃ x, W.cell? ⟨A, c, none⟩ = some x) (fA : W.frozen? ⟨A, c, none⟩ = false) (hT : W.cell? ⟨T, 0, none⟩ = some (.int .i64 v)) (ty : TypeId) :
    (Builtin.append_ #[32, 32] ty #[.slice (some ⟨A, 0, none⟩) c n, .slice (some ⟨T, 0, none⟩) 1 1]).run Yba.prog W = .ok (.slice (some ⟨A, 0, none⟩) (c + 1) n) (W.setCell ⟨A, c, none⟩ (.int .i64 v)) := by
  obtain ⟨inf, hi, hzz⟩ := Option.map_eq_some_iff.1 i3
  simp only [Prod.mk.injEq] at hzz
  obtain ⟨hz, hs, hb⟩ := hzz
  obtain ⟨x, hx⟩ := hA
  have hr := run_append_room_cells (P := Yba.prog) W 32 ty 3 inf Yba.underlying32 hi A 0 c n ⟨T, 0, none⟩ 1 1 [.int .i64 v] (by rw [hs]; rfl)
    (fun j u hj => by
      have hj0 : j = 0 := by have := (List.getElem?_eq_some_iff.1 hj).1; simp at this; exact this
      subst hj0
      simp at hj
      rw [Addr.add_lit, Nat.zero_add, hT, hj]) (by intro u hu; simp at hu; subst hu; rfl) (by omega)
    (fun j hj => by have : j = 0 := by simp at hj; exact hj
                    subst this; rw [hs, Nat.zero_add, Nat.mul_one, Nat.add_zero, hx]; rfl)
    (fun j hj => by have : j = 0 := by simp at hj; exact hj
                    subst this; rw [hs, Nat.zero_add, Nat.mul_one, Nat.add_zero]; exact fA)
  rw [hs, Nat.zero_add, Nat.mul_one] at hr
  exact hr

end St
end Go.Proofs.Ybulkaylc
