import Derived.Test.YbulkaykoRows
import Derived.WalkKit
import Derived.WalkSpells
import Derived.WalkLawsBesides
import Derived.Defers
import Derived.Laws.Pointers
import Derived.Laws.LoneSync
namespace Go.Proofs.Ybulkayko
open Go.RowKit
set_option linter.unusedVariables false
namespace Rd

theorem raceRead (a : Addr) (w : World) : (callFunc 14 #[.pointer (some a)]).run Yba.prog w = .ok (.value (.tuple #[])) w := run_call_marked Yba.func14 (by kernel_rfl) (by kernel_rfl) (by kernel_rfl) .read (by kernel_rfl) a w
theorem disable (w : World) : (callFunc 15 #[]).run Yba.prog w = .ok (.value (.tuple #[])) w := run_call_mark0 Yba.func15 (by kernel_rfl) (by kernel_rfl) (by kernel_rfl) .disable (by kernel_rfl) w
theorem enable (w : World) : (callFunc 17 #[]).run Yba.prog w = .ok (.value (.tuple #[])) w := run_call_mark0 Yba.func17 (by kernel_rfl) (by kernel_rfl) (by kernel_rfl) .enable (by kernel_rfl) w
theorem acquire (a : Addr) (w : World) : (callFunc 20 #[.pointer (some a)]).run Yba.prog w = .ok (.value (.tuple #[])) w := run_call_marked Yba.func20 (by kernel_rfl) (by kernel_rfl) (by kernel_rfl) .acquire (by kernel_rfl) a w
theorem release (a : Addr) (w : World) : (callFunc 21 #[.pointer (some a)]).run Yba.prog w = .ok (.value (.tuple #[])) w := run_call_marked Yba.func21 (by kernel_rfl) (by kernel_rfl) (by kernel_rfl) .release (by kernel_rfl) a w
theorem releaseMerge (a : Addr) (w : World) : (callFunc 22 #[.pointer (some a)]).run Yba.prog w = .ok (.value (.tuple #[])) w := run_call_marked Yba.func22 (by kernel_rfl) (by kernel_rfl) (by kernel_rfl) .releaseMerge (by kernel_rfl) a w

/-- The lock in the store's block: the writers' state word s, the readers' count rc. -/
structure Lk (w : World) (S : Nat) (s rc : Int) : Prop where
  c9 : w.cell? ⟨S, 9, none⟩ = some (.int .i32 s)
  c10 : ∃ x, w.cell? ⟨S, 10, none⟩ = some x
  c11 : ∃ x, w.cell? ⟨S, 11, none⟩ = some x
  c12 : ∃ x, w.cell? ⟨S, 12, none⟩ = some x
  c13 : w.cell? ⟨S, 13, none⟩ = some (.int .i32 rc)
  fz : ∀ j, w.frozen? ⟨S, j, none⟩ = false

/-- Nothing has turned but the two words of the lock. -/
structure Kp (S : Nat) (w w' : World) : Prop where
  os : w'.os = w.os
  tape : w'.tape = w.tape
  output : w'.output = w.output
  size : w'.heap.size = w.heap.size
  block : ∀ k, k ≠ S → w'.heap[k]? = w.heap[k]?
  cell : ∀ j, j ≠ 9 → j ≠ 13 → w'.cell? ⟨S, j, none⟩ = w.cell? ⟨S, j, none⟩
  fz : ∀ j, w'.frozen? ⟨S, j, none⟩ = w.frozen? ⟨S, j, none⟩

theorem Kp.refl (S : Nat) (w : World) : Kp S w w := ⟨rfl, rfl, rfl, rfl, fun _ _ => rfl, fun _ _ _ => rfl, fun _ => rfl⟩
theorem Kp.trans {S : Nat} {a b c : World} (h : Kp S a b) (k : Kp S b c) : Kp S a c :=
  ⟨k.os.trans h.os, k.tape.trans h.tape, k.output.trans h.output, k.size.trans h.size, fun i hi => (k.block i hi).trans (h.block i hi), fun j h1 h2 => (k.cell j h1 h2).trans (h.cell j h1 h2), fun j => (k.fz j).trans (h.fz j)⟩
theorem Kp.set9 (S : Nat) (w : World) (v : Value) : Kp S w (w.setCell ⟨S, 9, none⟩ v) :=
  ⟨rfl, rfl, rfl, by simp [World.setCell], fun k hk => Below.heap_setCell _ _ _ _ hk, fun j h1 h2 => World.cell?_setCell_other _ _ _ _ (by simp), fun j => World.frozen?_setCell _ _ _ _⟩
theorem Kp.set13 (S : Nat) (w : World) (v : Value) : Kp S w (w.setCell ⟨S, 13, none⟩ v) :=
  ⟨rfl, rfl, rfl, by simp [World.setCell], fun k hk => Below.heap_setCell _ _ _ _ hk, fun j h1 h2 => World.cell?_setCell_other _ _ _ _ (by simp), fun j => World.frozen?_setCell _ _ _ _⟩

theorem Lk.set9 {w : World} {S : Nat} {s rc : Int} (h : Lk w S s rc) (s' : Int) : Lk (w.setCell ⟨S, 9, none⟩ (.int .i32 s')) S s' rc := by
  have k := Kp.set9 S w (.int .i32 s')
  refine ⟨World.cell?_setCell_same _ _ _ h.c9, ?_, ?_, ?_, ?_, fun j => (k.fz j).trans (h.fz j)⟩
  · rw [k.cell 10 (by omega) (by omega)]; exact h.c10
  · rw [k.cell 11 (by omega) (by omega)]; exact h.c11
  · rw [k.cell 12 (by omega) (by omega)]; exact h.c12
  · rw [World.cell?_setCell_other _ _ _ _ (by simp)]; exact h.c13
theorem Lk.set13 {w : World} {S : Nat} {s rc : Int} (h : Lk w S s rc) (rc' : Int) : Lk (w.setCell ⟨S, 13, none⟩ (.int .i32 rc')) S s rc' := by
  have k := Kp.set13 S w (.int .i32 rc')
  refine ⟨?_, ?_, ?_, ?_, World.cell?_setCell_same _ _ _ h.c13, fun j => (k.fz j).trans (h.fz j)⟩
  · rw [World.cell?_setCell_other _ _ _ _ (by simp)]; exact h.c9
  · rw [k.cell 10 (by omega) (by omega)]; exact h.c10
  · rw [k.cell 11 (by omega) (by omega)]; exact h.c11
  · rw [k.cell 12 (by omega) (by omega)]; exact h.c12

theorem conv62 {w : World} {a : Addr} {v : Value} (h : w.cell? a = some v) : (convert 62 61 (.pointer (some a))).run Yba.prog w = .ok (.pointer (some a)) w :=
  run_convert_to_unsafe (P := Yba.prog) (src := 62) (dst := 61) Yba.underlying62 Yba.underlying61 (by kernel_rfl) h
theorem conv64 {w : World} {a : Addr} {v : Value} (h : w.cell? a = some v) : (convert 64 61 (.pointer (some a))).run Yba.prog w = .ok (.pointer (some a)) w :=
  run_convert_to_unsafe (P := Yba.prog) (src := 64) (dst := 61) Yba.underlying64 Yba.underlying61 (by kernel_rfl) h
theorem conv76 {w : World} {a : Addr} {v : Value} (h : w.cell? a = some v) : (convert 76 61 (.pointer (some a))).run Yba.prog w = .ok (.pointer (some a)) w :=
  run_convert_to_unsafe (P := Yba.prog) (src := 76) (dst := 61) Yba.underlying76 Yba.underlying61 (by kernel_rfl) h

theorem add32 {w : World} {a : Addr} {x y s : Int} (hc : w.cell? a = some (.int .i32 x)) (hz : w.frozen? a = false) (hs : (Op.intArith .add .i32 x y).run Yba.prog w = .ok (.int .i32 s) w) :
    (callFunc 32 #[.pointer (some a), .int .i32 y]).run Yba.prog w = .ok (.value (.int .i32 s)) (w.setCell a (.int .i32 s)) :=
  run_call_add (P := Yba.prog) Yba.func32 (by kernel_rfl) (by kernel_rfl) (by kernel_rfl) .i32 (by kernel_rfl) hc hz hs
theorem cas_hit {w : World} {a : Addr} {x : Int} (y : Int) (hc : w.cell? a = some (.int .i32 x)) (hz : w.frozen? a = false) :
    (callFunc 30 #[.pointer (some a), .int .i32 x, .int .i32 y]).run Yba.prog w = .ok (.value (.bool true)) (w.setCell a (.int .i32 y)) :=
  run_call_cas_hit (P := Yba.prog) Yba.func30 (by kernel_rfl) (by kernel_rfl) (by kernel_rfl) .i32 (by kernel_rfl) hc hz
theorem cas_miss {w : World} {a : Addr} {x o : Int} (y : Int) (hc : w.cell? a = some (.int .i32 x)) (hz : w.frozen? a = false) (hne : ¬ x = o) :
    (callFunc 30 #[.pointer (some a), .int .i32 o, .int .i32 y]).run Yba.prog w = .ok (.value (.bool false)) w :=
  run_call_cas_miss (P := Yba.prog) Yba.func30 (by kernel_rfl) (by kernel_rfl) (by kernel_rfl) .i32 (by kernel_rfl) hc hz hne

set_option maxRecDepth 100000 in
set_option maxHeartbeats 800000 in
theorem rlock (S : Nat) (w : World) (h : Lk w S 0 0) :
    Calls Yba.prog 12 #[.pointer (some ⟨S, 9, none⟩)] w fun e w' => e = .returned (.tuple #[]) ∧ Lk w' S 0 1 ∧ Kp S w w' := by
  have h1 := raceRead
  have h2 := disable
  have h3 := enable
  have h4 := acquire
  have v0 := conv62 h.c9
  have k1 := h.set13 1
  obtain ⟨x12, c12⟩ := k1.c12
  have v3 := conv64 c12
  have hadd := add32 (y := 1) (s := 1) h.c13 (h.fz 13) (by simp [go_sem, IntKind.wrap_i32])
  have HL := k1
  clear k1 h
  go_enter Yba.func12, Yba.ntmps12
  go_wp2
  go_end0
  exact ⟨rfl, HL, Kp.set13 _ _ _⟩

set_option maxRecDepth 100000 in
set_option maxHeartbeats 800000 in
theorem runlock (S : Nat) (u : FrameMode) (w : World) (h : Lk w S 0 1) :
    CallsD Yba.prog 13 #[.pointer (some ⟨S, 9, none⟩)] u w fun e u' w' => u' = u ∧ (e = .returned (.tuple #[]) ∧ Lk w' S 0 0 ∧ Kp S w w') := by
  have h1 := raceRead
  have h2 := disable
  have h3 := enable
  have h4 := releaseMerge
  have v0 := conv62 h.c9
  obtain ⟨x11, c11⟩ := h.c11
  have v2 := conv64 c11
  have hadd := add32 (y := -1) (s := 0) h.c13 (h.fz 13) (by simp [go_sem, IntKind.wrap_i32])
  have HL := h.set13 0
  clear h
  go_enter_d Yba.func13, Yba.ntmps13
  go_wp2
  go_end0
  exact ⟨rfl, HL, Kp.set13 _ _ _⟩

set_option maxRecDepth 100000 in
set_option maxHeartbeats 800000 in
theorem itry (S : Nat) (w : World) (rc : Int) (h : Lk w S 0 rc) :
    Calls Yba.prog 29 #[.pointer (some ⟨S, 9, none⟩)] w fun e w' => e = .returned (.bool true) ∧ w' = w.setCell ⟨S, 9, none⟩ (.int .i32 1) := by
  have h2 := disable
  have h3 := enable
  have h4 := acquire
  have c9 := h.c9
  have hcas := cas_hit 1 h.c9 (h.fz 9)
  have v0 := conv76 (h.set9 1).c9
  clear h
  go_enter Yba.func29, Yba.ntmps29
  go_wp2
  go_ret
  exact ⟨rfl, rfl⟩

set_option maxRecDepth 100000 in
set_option maxHeartbeats 800000 in
theorem iunlock (S : Nat) (w : World) (rc : Int) (h : Lk w S 1 rc) :
    Calls Yba.prog 31 #[.pointer (some ⟨S, 9, none⟩)] w fun e w' => e = .returned (.tuple #[]) ∧ w' = w.setCell ⟨S, 9, none⟩ (.int .i32 0) := by
  have h2 := disable
  have h3 := enable
  have h4 := releaseMerge
  have c9 := h.c9
  have hadd := add32 (y := -1) (s := 0) h.c9 (h.fz 9) (by simp [go_sem, IntKind.wrap_i32])
  have v0 := conv76 h.c9
  clear h
  go_enter Yba.func31, Yba.ntmps31
  go_wp2
  go_end0
  exact ⟨rfl, rfl⟩

end Rd
end Go.Proofs.Ybulkayko
