import Derived.Test.YbulkaylcSwE
namespace Go.Proofs.Ybulkaylc
open Go.RowKit
set_option linter.unusedVariables false
namespace St
open Sw

/-- Groups an item. -/
def per (G : Bool) : Nat := if G then 5 else 1

set_option maxHeartbeats 400000 in
theorem gpi (L : Nat) (G : Bool) (w : World) (cG : w.cell? ⟨L, 7, none⟩ = some (.bool G)) :
    Calls Yba.prog 18 #[.pointer (some ⟨L, 0, none⟩)] w fun e w' => e = .returned (.int .i64 (per G)) ∧ w' = w := by
  cases G
  · go_enter Yba.func18, Yba.ntmps18
    go_wp2
    go_ret
    exact ⟨rfl, rfl⟩
  · go_enter Yba.func18, Yba.ntmps18
    go_wp2
    go_ret
    exact ⟨rfl, rfl⟩

set_option maxHeartbeats 400000 in
theorem entryAt (WI E n item e : Nat) (w : World) (hi : item < n) (he : e < 8) (c0 : w.cell? ⟨WI, 0, none⟩ = some (.slice (some ⟨E, 0, none⟩) n n)) (cE : w.cell? ⟨E, item, none⟩ = some (.int .i32 e)) :
    Calls Yba.prog 13 #[.pointer (some ⟨WI, 0, none⟩), .int .i64 item] w fun x w' => x = .returned (.int .i64 e) ∧ w' = w := by
  have h : (item : Int) < (n : Int) := by omega
  have he' : (e : Int) < 8 := by omega
  go_enter Yba.func13, Yba.ntmps13
  go_wp2
  go_ret
  exact ⟨rfl, rfl⟩

set_option maxHeartbeats 400000 in
theorem itemGroup (L WI E n item e at_ : Nat) (G : Bool) (w : World) (hi : item < n) (he : e < 8) (ha : at_ < 5) (cG : w.cell? ⟨L, 7, none⟩ = some (.bool G)) (cL : w.cell? ⟨L, 17, none⟩ = some (.pointer (some ⟨WI, 0, none⟩))) (c0 : w.cell? ⟨WI, 0, none⟩ = some (.slice (some ⟨E, 0, none⟩) n n)) (cE : w.cell? ⟨E, item, none⟩ = some (.int .i32 e)) :
    Calls Yba.prog 19 #[.pointer (some ⟨L, 0, none⟩), .int .i64 item, .int .i64 at_] w fun x w' => x = .returned (.int .i64 ((e * per G + at_ : Nat) : Int)) ∧ w' = w := by
  have he' : (e : Int) < 8 := by omega
  have ha' : (at_ : Int) < 5 := by omega
  go_enter Yba.func19, Yba.ntmps19
  go_wp2_with fail
  refine (entryAt WI E n item e w hi he c0 cE).mono ?_
  rintro x w1 ⟨rfl, rfl⟩
  go_wp2_with fail
  cases G
  · have hg : Calls Yba.prog 18 #[.pointer (some ⟨L, 0, none⟩)] w1 fun e w' => e = .returned (.int .i64 1) ∧ w' = w1 := gpi L false w1 cG
    refine hg.mono ?_
    rintro x w2 ⟨rfl, rfl⟩
    go_wp2_with fail
    go_ret
    exact ⟨by simp [per], rfl⟩
  · have hg : Calls Yba.prog 18 #[.pointer (some ⟨L, 0, none⟩)] w1 fun e w' => e = .returned (.int .i64 5) ∧ w' = w1 := gpi L true w1 cG
    refine hg.mono ?_
    rintro x w2 ⟨rfl, rfl⟩
    go_wp2_with fail
    go_ret
    exact ⟨by simp [per], rfl⟩

set_option maxHeartbeats 400000 in
theorem contains (O ND len t : Nat) (w : World) (ht : t < len) (cO : w.cell? ⟨O, 0, none⟩ = some (.slice (some ⟨ND, 0, none⟩) len len)) (cN : w.cell? ⟨ND, t * 3, none⟩ = some (.int .u64 0)) :
    Calls Yba.prog 23 #[.pointer (some ⟨O, 0, none⟩), .int .i64 t] w fun x w' => x = .returned (.bool false) ∧ w' = w := by
  have ht' : (t : Int) < (len : Int) := by omega
  go_enter Yba.func23, Yba.ntmps23
  go_wp2
  go_ret
  exact ⟨rfl, rfl⟩

end St
end Go.Proofs.Ybulkaylc
