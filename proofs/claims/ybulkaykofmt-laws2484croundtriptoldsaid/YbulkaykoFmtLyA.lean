import Derived.Test.YbulkaykoFmtRows
import Derived.WalkKit
import Derived.WalkSpells
import Derived.WalkLawsBesides
import Derived.Deep.QuietTactic
import Derived.BigQuiet
import Derived.Laws.IdiomCopy
namespace Go.Proofs.YbulkaykoFmt
open Go.RowKit
set_option linter.unusedVariables false
namespace Ly

set_option maxHeartbeats 400000 in
theorem eq_empty (pa pb : Option Addr) (ca cb : Nat) (w : World) :
    Calls Ybaf.prog 6 #[.slice pa 0 ca, .slice pb 0 cb] w fun e w' => e = .returned (.bool true) ∧ ∃ n, w' = w.drewN n := by
  go_enter Ybaf.func6, Ybaf.ntmps6
  go_wp2
  go_loop [5] (fun i => i = .int .i64 0) (fun _ => 0)
  case atStart => rfl
  case round =>
    obtain rfl := hrel
    go_wp2
    go_ret
    exact ⟨rfl, 0, rfl⟩

set_option maxHeartbeats 400000 in
theorem eq_same (ba oa ca bb ob cb n : Nat) (z : Nat → Int) (w : World) (hn : n ≤ 4096)
    (h1 : ∀ i, i < n → w.cell? ⟨ba, oa + i, none⟩ = some (.int .u8 (z i))) (h2 : ∀ i, i < n → w.cell? ⟨bb, ob + i, none⟩ = some (.int .u8 (z i))) :
    Calls Ybaf.prog 6 #[.slice (some ⟨ba, oa, none⟩) n ca, .slice (some ⟨bb, ob, none⟩) n cb] w fun e w' => e = .returned (.bool true) ∧ ∃ n, w' = w.drewN n := by
  go_enter Ybaf.func6, Ybaf.ntmps6
  go_wp2
  go_loopw [5] (fun i wr => ∃ k m : Nat, k ≤ n ∧ i = .int .i64 k ∧ wr = w.drewN m) (fun i _ => n - (intOf i).toNat)
  case atStart => exact ⟨0, 0, Nat.zero_le _, rfl, rfl⟩
  case round =>
    obtain ⟨k, m, hk, rfl, rfl⟩ := hrel
    by_cases hlt : k < n
    · have g1 := h1 k hlt
      have g2 := h2 k hlt
      have hlt' : (k : Int) < (n : Int) := by omega
      clear h1 h2
      go_wp2
      go_quiet (fail)
      go_wp2
      go_roundw
      case rel => exact ⟨k + 1, _, by omega, by go_num, rfl⟩
      case measure => simp [intOf]; omega
    · go_wp2
      go_ret
      exact ⟨rfl, m, rfl⟩


/-- The k-th byte of x, the greatest first. -/
def be (x : Int) (k : Nat) : Int := match k with
  | 0 => x / 16777216
  | 1 => x / 65536 % 256
  | 2 => x / 256 % 256
  | _ => x % 256

/-- Block g of w holds, from its first cell on, m bytes; no cell of it is frozen. -/
structure Row (w : World) (g : Nat) (f : Nat → Int) (m : Nat) : Prop where
  lt : g < w.heap.size
  cell : ∀ j, j < m → w.cell? ⟨g, j, none⟩ = some (.int .u8 (f j))
  free : ∀ j, w.frozen? ⟨g, j, none⟩ = false

def upd (f : Nat → Int) (i : Nat) (x : Int) : Nat → Int := fun j => if j = i then x else f j

theorem Row.set {w : World} {g m : Nat} {f : Nat → Int} (h : Row w g f m) (i : Nat) (x : Int) (hi : i < m) : Row (w.setCell ⟨g, i, none⟩ (.int .u8 x)) g (upd f i x) m := by
  refine ⟨by have := h.lt; simpa [World.setCell] using this, fun j hj => ?_, fun j => by rw [World.frozen?_setCell]; exact h.free j⟩
  unfold upd
  by_cases e : j = i
  · subst e; rw [if_pos rfl]; exact World.cell?_setCell_same _ _ _ (h.cell j hj)
  · rw [if_neg e, World.cell?_setCell_other _ _ _ _ (by simp)]; exact h.cell j hj

theorem Row.drew {w : World} {g m : Nat} {f : Nat → Int} (h : Row w g f m) : Row w.drew g f m := ⟨h.lt, h.cell, h.free⟩

theorem Row.below {w w' : World} {B g m : Nat} {f : Nat → Int} (h : Row w g f m) (hb : Below B w w') (hg : g < B) : Row w' g f m :=
  ⟨Nat.lt_of_lt_of_le h.lt hb.size, fun j hj => by rw [hb.cell (p := ⟨g, j, none⟩) hg]; exact h.cell j hj, fun j => by rw [hb.frozen (p := ⟨g, j, none⟩) hg]; exact h.free j⟩

theorem Row.alloc {w : World} {g m : Nat} {f : Nat → Int} (h : Row w g f m) (o : Obj) : Row (w.alloc o) g f m :=
  h.below (Below.alloc (Below.refl w.heap.size w) (Nat.le_refl _) o) h.lt

def put (f : Nat → Int) (o : Nat) (v : Int) : Nat → Int := upd (upd (upd (upd f o (be v 0)) (o + 1) (be v 1)) (o + 2) (be v 2)) (o + 3) (be v 3)

set_option maxHeartbeats 400000 in
theorem put32 (g o n c m : Nat) (v : Int) (f : Nat → Int) (w : World) (h0 : 0 ≤ v) (h1 : v < 4294967296) (hn : 4 ≤ n) (hm : o + 4 ≤ m) (hr : Row w g f m) :
    Calls Ybaf.prog 9 #[.agg #[], .slice (some ⟨g, o, none⟩) n c, .int .u32 v] w fun e w' => e = .returned (.tuple #[]) ∧ Row w' g (put f o v) m ∧ Below g w w' := by
  have c0 := hr.cell o (by omega)
  have c1 := hr.cell (o + 1) (by omega)
  have c2 := hr.cell (o + 2) (by omega)
  have c3 := hr.cell (o + 3) (by omega)
  have f0 := hr.free o
  have f1 := hr.free (o + 1)
  have f2 := hr.free (o + 2)
  have f3 := hr.free (o + 3)
  have hlt := hr.lt
  have n0 : 0 < n := by omega
  have n1 : (1 : Int) < (n : Int) := by omega
  have n2 : (2 : Int) < (n : Int) := by omega
  have n3 : (3 : Int) < (n : Int) := by omega
  go_enter Ybaf.func9, Ybaf.ntmps9
  go_wp2
  go_end0
  exact ⟨rfl, ((((hr.set o _ (by omega)).set (o + 1) _ (by omega)).set (o + 2) _ (by omega)).set (o + 3) _ (by omega)).alloc _,
    (((((Below.refl g w).setCell (p := ⟨g, o, none⟩) (Nat.le_refl _) _).setCell (p := ⟨g, o + 1, none⟩) (Nat.le_refl _) _).setCell (p := ⟨g, o + 2, none⟩) (Nat.le_refl _) _).setCell (p := ⟨g, o + 3, none⟩) (Nat.le_refl _) _).alloc (by simp [World.setCell]; omega) _⟩

end Ly
end Go.Proofs.YbulkaykoFmt
