import Derived.Test.YbulkaylcSwA
import Derived.Deep.RegionHeld3
import Derived.Deep.DeepCutAuto
namespace Go.Proofs.Ybulkaylc
open Go.RowKit
set_option linter.unusedVariables false
namespace Sw

/-- The blocks. -/
structure Blk where
  L : Nat
  WI : Nat
  E : Nat
  HH : Nat
  T : Nat
  H : Nat
  U : Nat → Nat

/-- They are apart. -/
structure Apart (b : Blk) (n : Nat) : Prop where
  inj : ∀ i j, i < n → j < n → b.U i = b.U j → i = j
  uL : ∀ i, i < n → b.U i ≠ b.L
  uWI : ∀ i, i < n → b.U i ≠ b.WI
  uE : ∀ i, i < n → b.U i ≠ b.E
  uHH : ∀ i, i < n → b.U i ≠ b.HH
  uT : ∀ i, i < n → b.U i ≠ b.T
  uH : ∀ i, i < n → b.U i ≠ b.H
  hL : b.H ≠ b.L
  hWI : b.H ≠ b.WI
  hE : b.H ≠ b.E
  hHH : b.H ≠ b.HH
  hT : b.H ≠ b.T
  hhL : b.HH ≠ b.L
  hhWI : b.HH ≠ b.WI
  hhE : b.HH ≠ b.E
  hhT : b.HH ≠ b.T

/-- What does not turn while holders are moved. -/
structure Env (w : World) (b : Blk) (n : Nat) (hd : Nat → Int) (ends : Value) (el ec : Nat) : Prop where
  cL10 : w.cell? ⟨b.L, 10, none⟩ = some (.slice (some ⟨b.T, 0, none⟩) n n)
  cL17 : w.cell? ⟨b.L, 17, none⟩ = some (.pointer (some ⟨b.WI, 0, none⟩))
  cWI0 : w.cell? ⟨b.WI, 0, none⟩ = some (.slice (some ⟨b.E, 0, none⟩) (el + 1) ec)
  cWI2 : w.cell? ⟨b.WI, 2, none⟩ = some (.slice (some ⟨b.HH, 0, none⟩) 2 2)
  cWI3 : w.cell? ⟨b.WI, 3, none⟩ = some ends
  cE : w.cell? ⟨b.E, 0, none⟩ = some (.int .i32 1)
  cT : ∀ i, i < n → w.cell? ⟨b.T, i * 11, none⟩ = some (.slice (some ⟨b.U i, 0, none⟩) 1 1)
  cU0 : ∀ i, i < n → w.cell? ⟨b.U i, 0, none⟩ = some (.int .i32 0)
  cU2 : ∀ i, i < n → w.cell? ⟨b.U i, 2, none⟩ = some (.int .u8 (hd i))
  fU : ∀ i, i < n → w.frozen? ⟨b.U i, 6, none⟩ = false
  fH : ∀ j, w.frozen? ⟨b.H, j, none⟩ = false

/-- The waiters' rows, and the uses' slots. -/
structure Rws (w : World) (b : Blk) (n : Nat) (it : Int) (tx : Nat → Nat) (qa he : Nat → Int) (ws : Nat → Int) : Prop where
  r0 : ∀ i, i < n → w.cell? ⟨b.H, i * 6, none⟩ = some (.int .i32 (tx i))
  r1 : ∀ i, i < n → w.cell? ⟨b.H, i * 6 + 1, none⟩ = some (.int .i32 it)
  r2 : ∀ i, i < n → w.cell? ⟨b.H, i * 6 + 2, none⟩ = some (.int .i32 (qa i))
  r3 : ∀ i, i < n → w.cell? ⟨b.H, i * 6 + 3, none⟩ = some (.int .u8 0)
  r4 : ∀ i, i < n → w.cell? ⟨b.H, i * 6 + 4, none⟩ = some (.int .u8 (he i))
  r5 : ∀ i, i < n → w.cell? ⟨b.H, i * 6 + 5, none⟩ = some (.bool false)
  slot : ∀ i, i < n → w.cell? ⟨b.U i, 6, none⟩ = some (.int .i32 (ws i))

theorem Env.drewN {w : World} {b : Blk} {n : Nat} {hd : Nat → Int} {ends : Value} {el ec : Nat} (h : Env w b n hd ends el ec) (m : Nat) : Env (w.drewN m) b n hd ends el ec := ⟨h.1, h.2, h.3, h.4, h.5, h.6, h.7, h.8, h.9, h.10, h.11⟩
theorem Rws.drewN {w : World} {b : Blk} {n : Nat} {it : Int} {tx : Nat → Nat} {qa he ws : Nat → Int} (h : Rws w b n it tx qa he ws) (m : Nat) : Rws (w.drewN m) b n it tx qa he ws := ⟨h.1, h.2, h.3, h.4, h.5, h.6, h.7⟩

/-- Nothing has turned but blocks that S allows, and new ones. -/
structure Tch (S : Nat → Prop) (w w' : World) : Prop where
  os : w'.os = w.os
  tape : w'.tape = w.tape
  output : w'.output = w.output
  size : w.heap.size ≤ w'.heap.size
  block : ∀ k, k < w.heap.size → ¬ S k → w'.heap[k]? = w.heap[k]?
theorem Tch.refl (S : Nat → Prop) (w : World) : Tch S w w := ⟨rfl, rfl, rfl, Nat.le_refl _, fun _ _ _ => rfl⟩
theorem Tch.trans {S : Nat → Prop} {a b c : World} (h : Tch S a b) (k : Tch S b c) : Tch S a c :=
  ⟨k.os.trans h.os, k.tape.trans h.tape, k.output.trans h.output, Nat.le_trans h.size k.size, fun i hi hs => (k.block i (Nat.lt_of_lt_of_le hi h.size) hs).trans (h.block i hi hs)⟩
theorem Tch.drewN {S : Nat → Prop} {a w : World} (h : Tch S a w) (n : Nat) : Tch S a (w.drewN n) := ⟨h.os, h.tape, h.output, h.size, h.block⟩
theorem Tch.alloc {S : Nat → Prop} {a w : World} (h : Tch S a w) (o : Obj) : Tch S a (w.alloc o) :=
  h.trans ⟨rfl, rfl, rfl, by simp, fun k hk _ => Below.heap_alloc _ _ _ hk⟩
theorem Tch.setCell {S : Nat → Prop} {a w : World} (h : Tch S a w) {p : Addr} (hp : S p.block) (u : Value) : Tch S a (w.setCell p u) :=
  h.trans ⟨rfl, rfl, rfl, by simp [World.setCell], fun k _ hs => Below.heap_setCell _ _ _ _ (fun e => hs (by rw [e]; exact hp))⟩
theorem Tch.mono {S S' : Nat → Prop} {a w : World} (h : Tch S a w) (hs : ∀ k, S k → S' k) : Tch S' a w := ⟨h.os, h.tape, h.output, h.size, fun k hk hn => h.block k hk (fun hx => hn (hs k hx))⟩
theorem Tch.cell {S : Nat → Prop} {w w' : World} (h : Tch S w w') {p : Addr} {v : Value} (hc : w.cell? p = some v) (hs : ¬ S p.block) : w'.cell? p = some v := by
  have hlt : p.block < w.heap.size := by
    rcases Nat.lt_or_ge p.block w.heap.size with h' | h'
    · exact h'
    · unfold World.cell? at hc; rw [Array.getElem?_eq_none h'] at hc; simp at hc
  rw [World.cell?_of_block (w := w) (h.block p.block hlt hs)]; exact hc

def put {α : Type} (f : Nat → α) (i : Nat) (x : α) : Nat → α := fun j => if j = i then x else f j
theorem put_same {α : Type} (f : Nat → α) (i : Nat) (x : α) : put f i x i = x := if_pos rfl
theorem put_other {α : Type} (f : Nat → α) {i j : Nat} (x : α) (h : j ≠ i) : put f i x j = f j := if_neg h

/-- Six cells stored, one behind the other. -/
def six (w : World) (g o : Nat) (v0 v1 v2 v3 v4 v5 : Value) : World :=
  (((((w.setCell ⟨g, o, none⟩ v0).setCell ⟨g, o + 1, none⟩ v1).setCell ⟨g, o + 2, none⟩ v2).setCell ⟨g, o + 3, none⟩ v3).setCell ⟨g, o + 4, none⟩ v4).setCell ⟨g, o + 5, none⟩ v5

theorem six_out (w : World) (g o : Nat) (v0 v1 v2 v3 v4 v5 : Value) (a : Addr) (h : a.block = g → a.spot = none → a.off < o ∨ o + 6 ≤ a.off) : (six w g o v0 v1 v2 v3 v4 v5).cell? a = w.cell? a := by
  have hk : ∀ j, j < 6 → (⟨g, o + j, none⟩ : Addr) ≠ a := fun j hj e => by
    have := h (by rw [← e]) (by rw [← e])
    rw [← e] at this
    simp at this
    omega
  have hk0 : (⟨g, o, none⟩ : Addr) ≠ a := hk 0 (by omega)
  unfold six
  rw [World.cell?_setCell_other _ _ _ _ (hk 5 (by omega)), World.cell?_setCell_other _ _ _ _ (hk 4 (by omega)), World.cell?_setCell_other _ _ _ _ (hk 3 (by omega)), World.cell?_setCell_other _ _ _ _ (hk 2 (by omega)), World.cell?_setCell_other _ _ _ _ (hk 1 (by omega)), World.cell?_setCell_other _ _ _ _ (hk0)]

theorem six_in (w : World) (g o : Nat) (v0 v1 v2 v3 v4 v5 : Value) (h : ∀ j, j < 6 → (w.cell? ⟨g, o + j, none⟩).isSome = true) :
    (six w g o v0 v1 v2 v3 v4 v5).cell? ⟨g, o, none⟩ = some v0 ∧ (six w g o v0 v1 v2 v3 v4 v5).cell? ⟨g, o + 1, none⟩ = some v1 ∧ (six w g o v0 v1 v2 v3 v4 v5).cell? ⟨g, o + 2, none⟩ = some v2 ∧
    (six w g o v0 v1 v2 v3 v4 v5).cell? ⟨g, o + 3, none⟩ = some v3 ∧ (six w g o v0 v1 v2 v3 v4 v5).cell? ⟨g, o + 4, none⟩ = some v4 ∧ (six w g o v0 v1 v2 v3 v4 v5).cell? ⟨g, o + 5, none⟩ = some v5 := by
  obtain ⟨x0, e0⟩ := Option.isSome_iff_exists.1 (h 0 (by omega))
  obtain ⟨x1, e1⟩ := Option.isSome_iff_exists.1 (h 1 (by omega))
  obtain ⟨x2, e2⟩ := Option.isSome_iff_exists.1 (h 2 (by omega))
  obtain ⟨x3, e3⟩ := Option.isSome_iff_exists.1 (h 3 (by omega))
  obtain ⟨x4, e4⟩ := Option.isSome_iff_exists.1 (h 4 (by omega))
  obtain ⟨x5, e5⟩ := Option.isSome_iff_exists.1 (h 5 (by omega))
  rw [Nat.add_zero] at e0
  have hne : ∀ i j : Nat, i ≠ j → (⟨g, o + i, none⟩ : Addr) ≠ ⟨g, o + j, none⟩ := fun i j hij e => by injection e; omega
  have hne0 : ∀ j : Nat, 0 ≠ j → (⟨g, o, none⟩ : Addr) ≠ ⟨g, o + j, none⟩ := fun j hij e => by injection e; omega
  have hne1 : ∀ j : Nat, 0 ≠ j → (⟨g, o + j, none⟩ : Addr) ≠ ⟨g, o, none⟩ := fun j hij e => by injection e; omega
  unfold six
  refine ⟨?_, ?_, ?_, ?_, ?_, ?_⟩
  · rw [World.cell?_setCell_other _ _ _ _ (hne1 5 (by omega)), World.cell?_setCell_other _ _ _ _ (hne1 4 (by omega)), World.cell?_setCell_other _ _ _ _ (hne1 3 (by omega)), World.cell?_setCell_other _ _ _ _ (hne1 2 (by omega)), World.cell?_setCell_other _ _ _ _ (hne1 1 (by omega))]
    exact World.cell?_setCell_same _ _ _ e0
  · rw [World.cell?_setCell_other _ _ _ _ (hne 5 1 (by omega)), World.cell?_setCell_other _ _ _ _ (hne 4 1 (by omega)), World.cell?_setCell_other _ _ _ _ (hne 3 1 (by omega)), World.cell?_setCell_other _ _ _ _ (hne 2 1 (by omega))]
    exact World.cell?_setCell_same _ _ _ ((World.cell?_setCell_other _ _ _ _ (hne0 1 (by omega))).trans e1)
  · rw [World.cell?_setCell_other _ _ _ _ (hne 5 2 (by omega)), World.cell?_setCell_other _ _ _ _ (hne 4 2 (by omega)), World.cell?_setCell_other _ _ _ _ (hne 3 2 (by omega))]
    exact World.cell?_setCell_same _ _ _ ((World.cell?_setCell_other _ _ _ _ (hne 1 2 (by omega))).trans ((World.cell?_setCell_other _ _ _ _ (hne0 2 (by omega))).trans e2))
  · rw [World.cell?_setCell_other _ _ _ _ (hne 5 3 (by omega)), World.cell?_setCell_other _ _ _ _ (hne 4 3 (by omega))]
    exact World.cell?_setCell_same _ _ _ ((World.cell?_setCell_other _ _ _ _ (hne 2 3 (by omega))).trans ((World.cell?_setCell_other _ _ _ _ (hne 1 3 (by omega))).trans ((World.cell?_setCell_other _ _ _ _ (hne0 3 (by omega))).trans e3)))
  · rw [World.cell?_setCell_other _ _ _ _ (hne 5 4 (by omega))]
    exact World.cell?_setCell_same _ _ _ ((World.cell?_setCell_other _ _ _ _ (hne 3 4 (by omega))).trans ((World.cell?_setCell_other _ _ _ _ (hne 2 4 (by omega))).trans ((World.cell?_setCell_other _ _ _ _ (hne 1 4 (by omega))).trans ((World.cell?_setCell_other _ _ _ _ (hne0 4 (by omega))).trans e4))))
  · exact World.cell?_setCell_same _ _ _ ((World.cell?_setCell_other _ _ _ _ (hne 4 5 (by omega))).trans ((World.cell?_setCell_other _ _ _ _ (hne 3 5 (by omega))).trans ((World.cell?_setCell_other _ _ _ _ (hne 2 5 (by omega))).trans ((World.cell?_setCell_other _ _ _ _ (hne 1 5 (by omega))).trans ((World.cell?_setCell_other _ _ _ _ (hne0 5 (by omega))).trans e5)))))

theorem six_frozen (w : World) (g o : Nat) (v0 v1 v2 v3 v4 v5 : Value) (a : Addr) : (six w g o v0 v1 v2 v3 v4 v5).frozen? a = w.frozen? a := by
  unfold six
  rw [World.frozen?_setCell, World.frozen?_setCell, World.frozen?_setCell, World.frozen?_setCell, World.frozen?_setCell, World.frozen?_setCell]

theorem six_tch {S : Nat → Prop} (w : World) (g o : Nat) (v0 v1 v2 v3 v4 v5 : Value) (hg : S g) : Tch S w (six w g o v0 v1 v2 v3 v4 v5) := by
  unfold six
  exact (((((((Tch.refl S w).setCell (p := ⟨g, o, none⟩) hg _).setCell (p := ⟨g, o + 1, none⟩) hg _).setCell (p := ⟨g, o + 2, none⟩) hg _).setCell (p := ⟨g, o + 3, none⟩) hg _).setCell (p := ⟨g, o + 4, none⟩) hg _).setCell (p := ⟨g, o + 5, none⟩) hg _)

theorem block_new (w : World) (o : Obj) : (w.alloc o).heap[w.heap.size]? = some o := by
  show (w.heap.push o)[w.heap.size]? = _; simp
theorem cell_new (w : World) (cs : Array Value) (t : TypeId) (n j : Nat) (hn : n = w.heap.size) : (w.alloc (.cells cs t)).cell? ⟨n, j, none⟩ = cs[j]? := by
  subst hn
  unfold World.cell?
  rw [block_new]
  simp

theorem lt_of_cell {w : World} {p : Addr} {v : Value} (hc : w.cell? p = some v) : p.block < w.heap.size := by
  rcases Nat.lt_or_ge p.block w.heap.size with h' | h'
  · exact h'
  · unfold World.cell? at hc; rw [Array.getElem?_eq_none h'] at hc; simp at hc

/-- What stands below is as it was: two worlds that agree on every block of the first, but for those that S allows. -/
theorem Env.tch {S : Nat → Prop} {w w' : World} {b : Blk} {n : Nat} {hd : Nat → Int} {ends : Value} {el ec : Nat} (h : Env w b n hd ends el ec) (t : Tch S w w') (sL : ¬ S b.L) (sWI : ¬ S b.WI) (sE : ¬ S b.E) (sT : ¬ S b.T)
    (u0 : ∀ i, i < n → w'.cell? ⟨b.U i, 0, none⟩ = some (.int .i32 0)) (u2 : ∀ i, i < n → w'.cell? ⟨b.U i, 2, none⟩ = some (.int .u8 (hd i))) (fU : ∀ i, i < n → w'.frozen? ⟨b.U i, 6, none⟩ = false) (fH : ∀ j, w'.frozen? ⟨b.H, j, none⟩ = false) :
    Env w' b n hd ends el ec :=
  ⟨t.cell h.cL10 sL, t.cell h.cL17 sL, t.cell h.cWI0 sWI, t.cell h.cWI2 sWI, t.cell h.cWI3 sWI, t.cell h.cE sE, fun i hi => t.cell (h.cT i hi) sT, u0, u2, fU, fH⟩

/-- A row stored over. -/
theorem Rws.six {w : World} {b : Blk} {n : Nat} {it : Int} {tx : Nat → Nat} {qa he ws : Nat → Int} (h : Rws w b n it tx qa he ws) (ap : Apart b n) (d : Nat) (hd : d < n) (t : Nat) (q e : Int) (o : Obj) :
    Rws ((Sw.six w b.H (d * 6) (.int .i32 t) (.int .i32 it) (.int .i32 q) (.int .u8 0) (.int .u8 e) (.bool false)).alloc o) b n it (put tx d t) (put qa d q) (put he d e) ws := by
  have hlt : b.H < w.heap.size := lt_of_cell (h.r0 d hd)
  have hin := six_in w b.H (d * 6) (.int .i32 t) (.int .i32 it) (.int .i32 q) (.int .u8 0) (.int .u8 e) (.bool false) (fun j hj => by
    match j, hj with
    | 0, _ => rw [Nat.add_zero, h.r0 d hd]; rfl
    | 1, _ => rw [h.r1 d hd]; rfl
    | 2, _ => rw [h.r2 d hd]; rfl
    | 3, _ => rw [h.r3 d hd]; rfl
    | 4, _ => rw [h.r4 d hd]; rfl
    | 5, _ => rw [h.r5 d hd]; rfl)
  have hal : ∀ (a : Addr), a.block < w.heap.size → ((Sw.six w b.H (d * 6) (.int .i32 t) (.int .i32 it) (.int .i32 q) (.int .u8 0) (.int .u8 e) (.bool false)).alloc o).cell? a = (Sw.six w b.H (d * 6) (.int .i32 t) (.int .i32 it) (.int .i32 q) (.int .u8 0) (.int .u8 e) (.bool false)).cell? a :=
    fun a ha => World.cell?_of_block (Below.heap_alloc _ _ _ (by simpa [Sw.six, World.setCell] using ha))
  have hout : ∀ i c, i < n → i ≠ d → c < 6 → (Sw.six w b.H (d * 6) (.int .i32 t) (.int .i32 it) (.int .i32 q) (.int .u8 0) (.int .u8 e) (.bool false)).cell? ⟨b.H, i * 6 + c, none⟩ = w.cell? ⟨b.H, i * 6 + c, none⟩ :=
    fun i c hi hne hc => six_out _ _ _ _ _ _ _ _ _ _ (fun _ _ => by show i * 6 + c < d * 6 ∨ d * 6 + 6 ≤ i * 6 + c; omega)
  refine ⟨fun i hi => ?_, fun i hi => ?_, fun i hi => ?_, fun i hi => ?_, fun i hi => ?_, fun i hi => ?_, fun i hi => ?_⟩
  · rw [hal _ hlt]
    by_cases e : i = d
    · subst e; rw [put_same]; exact hin.1
    · rw [put_other _ _ e]; exact (hout i 0 hi e (by omega)).trans (h.r0 i hi)
  · rw [hal _ hlt]
    by_cases e : i = d
    · subst e; exact hin.2.1
    · exact (hout i 1 hi e (by omega)).trans (h.r1 i hi)
  · rw [hal _ hlt]
    by_cases e : i = d
    · subst e; rw [put_same]; exact hin.2.2.1
    · rw [put_other _ _ e]; exact (hout i 2 hi e (by omega)).trans (h.r2 i hi)
  · rw [hal _ hlt]
    by_cases e : i = d
    · subst e; exact hin.2.2.2.1
    · exact (hout i 3 hi e (by omega)).trans (h.r3 i hi)
  · rw [hal _ hlt]
    by_cases e : i = d
    · subst e; rw [put_same]; exact hin.2.2.2.2.1
    · rw [put_other _ _ e]; exact (hout i 4 hi e (by omega)).trans (h.r4 i hi)
  · rw [hal _ hlt]
    by_cases e : i = d
    · subst e; exact hin.2.2.2.2.2
    · exact (hout i 5 hi e (by omega)).trans (h.r5 i hi)
  · have hs := h.slot i hi
    rw [hal _ (lt_of_cell hs), six_out _ _ _ _ _ _ _ _ _ _ (fun e _ => absurd e (ap.uH i hi))]
    exact hs

/-- A use's slot stored over. -/
theorem Rws.slotSet {w : World} {b : Blk} {n : Nat} {it : Int} {tx : Nat → Nat} {qa he ws : Nat → Int} (h : Rws w b n it tx qa he ws) (ap : Apart b n) (t : Nat) (ht : t < n) (v : Int) :
    Rws (w.setCell ⟨b.U t, 6, none⟩ (.int .i32 v)) b n it tx qa he (put ws t v) := by
  have hH : ∀ j, (⟨b.U t, 6, none⟩ : Addr) ≠ ⟨b.H, j, none⟩ := fun j e => by injection e with e1; exact ap.uH t ht e1
  refine ⟨fun i hi => ?_, fun i hi => ?_, fun i hi => ?_, fun i hi => ?_, fun i hi => ?_, fun i hi => ?_, fun i hi => ?_⟩
  · rw [World.cell?_setCell_other _ _ _ _ (hH _)]; exact h.r0 i hi
  · rw [World.cell?_setCell_other _ _ _ _ (hH _)]; exact h.r1 i hi
  · rw [World.cell?_setCell_other _ _ _ _ (hH _)]; exact h.r2 i hi
  · rw [World.cell?_setCell_other _ _ _ _ (hH _)]; exact h.r3 i hi
  · rw [World.cell?_setCell_other _ _ _ _ (hH _)]; exact h.r4 i hi
  · rw [World.cell?_setCell_other _ _ _ _ (hH _)]; exact h.r5 i hi
  · by_cases e : i = t
    · subst e; rw [put_same]; exact World.cell?_setCell_same _ _ _ (h.slot i hi)
    · rw [put_other _ _ e, World.cell?_setCell_other _ _ _ _ (fun e' => by injection e' with e1; exact e (ap.inj t i ht hi e1).symm)]; exact h.slot i hi

theorem Env.six {w : World} {b : Blk} {n : Nat} {hd : Nat → Int} {ends : Value} {el ec : Nat} (h : Env w b n hd ends el ec) (ap : Apart b n) (o : Nat) (v0 v1 v2 v3 v4 v5 : Value) (ob : Obj) (hH : b.H < w.heap.size) : Env ((Sw.six w b.H o v0 v1 v2 v3 v4 v5).alloc ob) b n hd ends el ec := by
  have t : Tch (fun k => k = b.H) w ((Sw.six w b.H o v0 v1 v2 v3 v4 v5).alloc ob) := (six_tch (S := fun k => k = b.H) _ _ _ _ _ _ _ _ _ rfl).alloc _
  have hf : ∀ a : Addr, a.block < w.heap.size → ((Sw.six w b.H o v0 v1 v2 v3 v4 v5).alloc ob).frozen? a = w.frozen? a := fun a ha => by
    rw [World.frozen?_of_block (Below.heap_alloc _ _ _ (by simpa [Sw.six, World.setCell] using ha)), six_frozen]
  exact h.tch t (fun e => ap.hL e.symm) (fun e => ap.hWI e.symm) (fun e => ap.hE e.symm) (fun e => ap.hT e.symm) (fun i hi => t.cell (h.cU0 i hi) (fun e => ap.uH i hi e)) (fun i hi => t.cell (h.cU2 i hi) (fun e => ap.uH i hi e))
    (fun i hi => (hf ⟨b.U i, 6, none⟩ (lt_of_cell (p := ⟨b.U i, 0, none⟩) (h.cU0 i hi))).trans (h.fU i hi)) (fun j => (hf ⟨b.H, j, none⟩ hH).trans (h.fH j))

theorem Env.slotSet {w : World} {b : Blk} {n : Nat} {hd : Nat → Int} {ends : Value} {el ec : Nat} (h : Env w b n hd ends el ec) (ap : Apart b n) (t : Nat) (ht : t < n) (v : Value) : Env (w.setCell ⟨b.U t, 6, none⟩ v) b n hd ends el ec := by
  have tc : Tch (fun k => k = b.U t) w (w.setCell ⟨b.U t, 6, none⟩ v) := (Tch.refl (fun k => k = b.U t) w).setCell (p := ⟨b.U t, 6, none⟩) rfl v
  exact h.tch tc (fun e => ap.uL t ht e.symm) (fun e => ap.uWI t ht e.symm) (fun e => ap.uE t ht e.symm) (fun e => ap.uT t ht e.symm)
    (fun i hi => by rw [World.cell?_setCell_other _ _ _ _ (fun e => by injection e; omega)]; exact h.cU0 i hi) (fun i hi => by rw [World.cell?_setCell_other _ _ _ _ (fun e => by injection e; omega)]; exact h.cU2 i hi)
    (fun i hi => by rw [World.frozen?_setCell]; exact h.fU i hi) (fun j => by rw [World.frozen?_setCell]; exact h.fH j)

set_option maxHeartbeats 800000 in
set_option maxRecDepth 100000 in
theorem move (b : Blk) (n len fr dst : Nat) (hd : Nat → Int) (ends : Value) (el ec : Nat) (it : Int) (tx : Nat → Nat) (qa he ws : Nat → Int) (w : World) (hn : n ≤ 1024) (hl : len ≤ n) (hf : fr < len) (ht : dst < len) (htx : tx fr < n)
    (ap : Apart b n) (env : Env w b n hd ends el ec) (rs : Rws w b n it tx qa he ws) (cHH : w.cell? ⟨b.HH, 1, none⟩ = some (.slice (some ⟨b.H, 0, none⟩) len n)) :
    Calls Yba.prog 14 #[.pointer (some ⟨b.L, 0, none⟩), .int .i64 0, .int .i32 fr, .int .i32 dst] w fun e w' => e = .returned (.tuple #[]) ∧ Tch (fun k => k = b.H ∨ k = b.U (tx fr)) w w' ∧ Env w' b n hd ends el ec ∧ Rws w' b n it (put tx dst (tx fr)) (put qa dst (qa fr)) (put he dst (he fr)) (put ws (tx fr) dst) := by
  have cL17 := env.cL17
  have cWI0 := env.cWI0
  have cWI2 := env.cWI2
  have cE := env.cE
  have hf' : (fr : Int) < (len : Int) := by omega
  have ht' : (dst : Int) < (len : Int) := by omega
  have ENV := hide env
  have RS := hide rs
  have AP := hide ap
  clear env rs ap
  go_enter Yba.func14, Yba.ntmps14
  go_wp2_with fail
  go_quiet ((go_at_call 13; exact Calls.quiet_of_same (entryOf b.WI b.E el ec _ cWI0 cE)))
  have ENV1 := hide (ENV.out.drewN nq)
  have RS1 := hide (RS.out.drewN nq)
  have T1 : Hid (Tch (fun k => k = b.H ∨ k = b.U (tx fr)) w (w.drewN nq)) := (Tch.refl _ w).drewN nq
  clear cL17 cWI0 cWI2 cE cHH
  generalize w.drewN nq = W1 at *
  have q0 := RS1.out.r0 fr (by omega)
  have q1 := RS1.out.r1 fr (by omega)
  have q2 := RS1.out.r2 fr (by omega)
  have q3 := RS1.out.r3 fr (by omega)
  have q4 := RS1.out.r4 fr (by omega)
  have q5 := RS1.out.r5 fr (by omega)
  have d0 := RS1.out.r0 dst (by omega)
  have d1 := RS1.out.r1 dst (by omega)
  have d2 := RS1.out.r2 dst (by omega)
  have d3 := RS1.out.r3 dst (by omega)
  have d4 := RS1.out.r4 dst (by omega)
  have d5 := RS1.out.r5 dst (by omega)
  have f0 := ENV1.out.fH (dst * 6)
  have f1 := ENV1.out.fH (dst * 6 + 1)
  have f2 := ENV1.out.fH (dst * 6 + 2)
  have f3 := ENV1.out.fH (dst * 6 + 3)
  have f4 := ENV1.out.fH (dst * 6 + 4)
  have f5 := ENV1.out.fH (dst * 6 + 5)
  have hlt : b.H < W1.heap.size := by
    rcases Nat.lt_or_ge b.H W1.heap.size with h' | h'
    · exact h'
    · unfold World.cell? at q0; rw [Array.getElem?_eq_none h'] at q0; simp at q0
  go_wp2_with fail
  generalize hW2 : (((((((W1.setCell ⟨b.H, dst * 6, none⟩ (.int .i32 (tx fr))).setCell ⟨b.H, dst * 6 + 1, none⟩ (.int .i32 it)).setCell ⟨b.H, dst * 6 + 2, none⟩ (.int .i32 (qa fr))).setCell ⟨b.H, dst * 6 + 3, none⟩ (.int .u8 0)).setCell ⟨b.H, dst * 6 + 4, none⟩ (.int .u8 (he fr))).setCell ⟨b.H, dst * 6 + 5, none⟩ (.bool false)).alloc
    (.cells #[.int .i32 (tx fr), .int .i32 it, .int .i32 (qa fr), .int .u8 0, .int .u8 (he fr), .bool false] 84)) = W2
  have e6 : W2 = (six W1 b.H (dst * 6) (.int .i32 (tx fr)) (.int .i32 it) (.int .i32 (qa fr)) (.int .u8 0) (.int .u8 (he fr)) (.bool false)).alloc (.cells #[.int .i32 (tx fr), .int .i32 it, .int .i32 (qa fr), .int .u8 0, .int .u8 (he fr), .bool false] 84) := hW2.symm
  have t2 : Tch (fun k => k = b.H) W1 W2 := by rw [e6]; exact (six_tch (S := fun k => k = b.H) _ _ _ _ _ _ _ _ _ rfl).alloc _
  have c9 : W2.cell? ⟨W1.heap.size, 0, none⟩ = some (.int .i32 (tx fr)) := by
    rw [e6]
    exact cell_new _ _ _ _ _ (by simp [six, World.setCell])
  have c10 : W2.cell? ⟨b.L, 10, none⟩ = some (.slice (some ⟨b.T, 0, none⟩) n n) := t2.cell ENV1.out.cL10 (fun e => AP.out.hL e.symm)
  have cT := t2.cell (ENV1.out.cT (tx fr) htx) (fun e => AP.out.hT e.symm)
  have cU0 := t2.cell (ENV1.out.cU0 (tx fr) htx) (fun e => AP.out.uH _ htx e)
  have cU6 := t2.cell (RS1.out.slot (tx fr) htx) (fun e => AP.out.uH _ htx e)
  have fU6 : W2.frozen? ⟨b.U (tx fr), 6, none⟩ = false := by
    rw [World.frozen?_of_block (w := W1) (t2.block (b.U (tx fr)) (lt_of_cell (ENV1.out.cU0 (tx fr) htx)) (fun e => AP.out.uH _ htx e))]; exact ENV1.out.fU _ htx
  have htx' : ((tx fr : Nat) : Int) < (n : Int) := by omega
  have neL : (⟨b.U (tx fr), 6, none⟩ : Addr) ≠ ⟨b.L, 10, none⟩ := fun e => by injection e; exact AP.out.uL _ htx (by assumption)
  have neB : (⟨b.U (tx fr), 6, none⟩ : Addr) ≠ ⟨W1.heap.size, 0, none⟩ := fun e => by injection e; omega
  have E6 := hide e6
  have T2 := hide t2
  clear hW2 e6 t2 q0 q1 q2 q3 q4 q5 d0 d1 d2 d3 d4 d5 f0 f1 f2 f3 f4 f5 hlt
  go_region_held3 (fun W => W.cell? ⟨b.L, 10, none⟩ = some (.slice (some ⟨b.T, 0, none⟩) n n) ∧ W.cell? ⟨W1.heap.size, 0, none⟩ = some (.int .i32 (tx fr)))
    (first | exact ⟨(World.cell?_setCell_other _ _ _ _ neL).trans c10, (World.cell?_setCell_other _ _ _ _ neB).trans c9⟩ | exact ⟨c10, c9⟩)
    (first | (go_at_call 21; refine (use b.T (tx fr * 11) (b.U (tx fr)) W2.drew cT cU0).mono ?_; rintro e W3 ⟨rfl, m3, rfl⟩))
  go_wp2_with fail
  go_end0
  have hHlt : b.H < W1.heap.size := lt_of_cell (RS1.out.r0 fr (by omega))
  have env2 := ENV1.out.six AP.out (dst * 6) (.int .i32 (tx fr)) (.int .i32 it) (.int .i32 (qa fr)) (.int .u8 0) (.int .u8 (he fr)) (.bool false) (.cells #[.int .i32 (tx fr), .int .i32 it, .int .i32 (qa fr), .int .u8 0, .int .u8 (he fr), .bool false] 84) hHlt
  have rs2 := RS1.out.six AP.out dst (by omega) (tx fr) (qa fr) (he fr) (.cells #[.int .i32 (tx fr), .int .i32 it, .int .i32 (qa fr), .int .u8 0, .int .u8 (he fr), .bool false] 84)
  rw [← E6.out] at env2 rs2
  exact ⟨rfl, T1.out.trans (((T2.out.mono (S' := fun k => k = b.H ∨ k = b.U (tx fr)) (fun k hk => Or.inl hk)).drewN _).setCell (p := ⟨b.U (tx fr), 6, none⟩) (Or.inr rfl) _), (env2.drewN _).slotSet AP.out (tx fr) htx _, (rs2.drewN _).slotSet AP.out (tx fr) htx _⟩

end Sw
end Go.Proofs.Ybulkaylc
