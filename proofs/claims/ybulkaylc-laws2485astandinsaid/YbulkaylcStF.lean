import Derived.Test.YbulkaylcStE
import Derived.Lib.Builder
namespace Go.Proofs.Ybulkaylc
open Go.RowKit
set_option linter.unusedVariables false
namespace St
open Sw

theorem make37z (m : Nat) (hm : m + 1 ≤ 1024) (w : World) :
    ∃ o, (Instr.makeSlice 37 (.int .i64 ((m : Int) + 1)) (.int .i64 ((m : Int) + 1))).run Yba.prog w = .ok (.slice (some ⟨w.heap.size, 0, none⟩) (m + 1) (m + 1)) (w.alloc o) ∧ (∀ t, t < m + 1 → (w.alloc o).cell? ⟨w.heap.size, t, none⟩ = some (.int .i32 0)) ∧ Free (w.alloc o) w.heap.size := by
  obtain ⟨i, hi, hzz⟩ := Option.map_eq_some_iff.1 Gr.i21
  simp only [Prod.mk.injEq] at hzz
  obtain ⟨hz, hs, hb⟩ := hzz
  have hb' : i.bytes ≤ 256 := of_decide_eq_true hb
  have hbm : (i.bytes : Int) * ((m : Int) + 1) ≤ 256 * 1024 := Int.mul_le_mul (by omega) (by omega) (by omega) (by omega)
  have hr := run_make (P := Yba.prog) w 37 21 i _ Yba.underlying37 hi hz .i64 .i64 ((m : Int) + 1) ((m : Int) + 1) (by omega) (by omega) (by omega) (by omega)
  rw [hs] at hr
  have e : ((m : Int) + 1).toNat = m + 1 := by omega
  rw [e, Nat.mul_one] at hr
  refine ⟨_, hr, fun t ht => ?_, free_made (block_new _ _)⟩
  rw [cell_block (block_new _ _)]
  simp [madeCells, Value.cells, ht, Nat.mod_one]

theorem make51 (p : Nat) (hp : p < 8) (w : World) :
    ∃ o, (Instr.makeSlice 51 (.int .i64 (((p : Int) + 1) * 5)) (.int .i64 (((p : Int) + 1) * 5))).run Yba.prog w = .ok (.slice (some ⟨w.heap.size, 0, none⟩) ((p + 1) * 5) ((p + 1) * 5)) (w.alloc o) ∧ (∀ t, t < (p + 1) * 5 → (w.alloc o).cell? ⟨w.heap.size, t * 3, none⟩ = some (.int .u64 0)) := by
  obtain ⟨i, hi, hzz⟩ := Option.map_eq_some_iff.1 i119
  simp only [Prod.mk.injEq] at hzz
  obtain ⟨hzc, hs, hb⟩ := hzz
  obtain ⟨z, hz, hcs⟩ := Option.map_eq_some_iff.1 hzc
  have hb' : i.bytes ≤ 256 := of_decide_eq_true hb
  have hbm : (i.bytes : Int) * (((p : Int) + 1) * 5) ≤ 256 * 1024 := Int.mul_le_mul (by omega) (by omega) (by omega) (by omega)
  have hr := run_make (P := Yba.prog) w 51 119 i _ Yba.underlying51 hi hz .i64 .i64 (((p : Int) + 1) * 5) (((p : Int) + 1) * 5) (by omega) (by omega) (by omega) (by omega)
  rw [hs] at hr
  have e : (((p : Int) + 1) * 5).toNat = (p + 1) * 5 := by omega
  rw [e] at hr
  refine ⟨_, hr, fun t ht => ?_⟩
  have h3 : t * 3 < (p + 1) * 5 * 3 := by omega
  rw [cell_block (block_new _ _), hcs]
  simp [madeCells, Nat.mul_mod_left, h3]

theorem neq44 (a : Addr) (w : World) : (binOp .neq 44 (.pointer (some a)) (.pointer (some a))).run Yba.prog w = .ok (.bool false) w := by
  obtain ⟨i, hi⟩ := Option.isSome_iff_exists.1 (show (Yba.prog.info? 79).isSome = true by kernel_rfl)
  exact Lib.run_neq_ptr_same w a Yba.underlying44 hi
theorem neq50 (a : Addr) (w : World) : (binOp .neq 50 (.pointer (some a)) (.pointer (some a))).run Yba.prog w = .ok (.bool false) w := by
  obtain ⟨i, hi⟩ := Option.isSome_iff_exists.1 (show (Yba.prog.info? 53).isSome = true by kernel_rfl)
  exact Lib.run_neq_ptr_same w a Yba.underlying50 hi

/-- The world in which 'unwaited' is called. -/
def atS (W2 : World) (o2 : Obj) (N p m : Nat) (G : Bool) : World :=
  ((((((W2.alloc o2).alloc (.cells #[.slice (some ⟨N + 1, 0, none⟩) ((p + 1) * 5) ((p + 1) * 5), .int .i32 0] 53)).alloc
    (.cells #[.pointer none, .int .u8 0, .bool false, .bool false, .bool false, .bool false, .bool false, .bool G, .nilIface, .slice none 0 0, .slice none 0 0, .nilFunc, .slice none 0 0, .pointer none, .slice none 0 0, .slice none 0 0, .bool true, .pointer (some ⟨N + 1 + 1 + 1 + 1, 0, none⟩), .slice none 0 0, .slice none 0 0, .slice none 0 0, .slice none 0 0, .int .i64 0, .int .i64 0, .slice none 0 0, .slice none 0 0, .slice none 0 0] 40)).alloc
    (.cells #[.slice (some ⟨N, 0, none⟩) (m + 1) (m + 1), .slice none 0 0, .slice none 0 0, .slice none 0 0, .slice none 0 0, .slice none 0 0, .slice none 0 0, .slice none 0 0, .slice none 0 0, .pointer (some ⟨N + 1 + 1, 0, none⟩), .int .i32 0, .slice none 0 0] 59)).alloc
    (.cells #[.int .i64 1, .int .i64 2, .int .i64 3] 3)).alloc
    (.cells #[.pointer (some ⟨N + 1 + 1 + 1, 0, none⟩), .int .i32 0, .int .i64 0, .bool false, .pointer (some ⟨N + 1 + 1, 0, none⟩), .slice none 0 0, .slice none 0 0, .slice none 0 0, .slice none 0 0, .int .i32 0, .int .i32 0, .int .i32 0, .int .u64 0, .int .u8 0,
      .slice none 0 0, .slice none 0 0, .slice none 0 0, .slice none 0 0, .slice none 0 0, .slice none 0 0, .slice (some ⟨N + 1 + 1 + 1 + 1 + 1, 0, none⟩) 3 3, .slice none 0 0, .slice none 0 0, .slice none 0 0, .slice none 0 0, .slice none 0 0, .slice none 0 0, .slice none 0 0, .slice none 0 0, .slice none 0 0,
      .slice none 0 0, .slice none 0 0, .slice none 0 0, .int .i64 0, .int .i64 0, .int .i64 0, .slice none 0 0, .pointer none, .int .i64 0, .int .i64 0, .slice none 0 0, .slice none 0 0, .slice none 0 0, .slice none 0 0, .slice none 0 0, .slice none 0 0, .slice none 0 0, .slice none 0 0, .slice none 0 0] 79)).alloc
    (.cells #[.pointer (some ⟨N + 1 + 1 + 1, 0, none⟩), .pointer (some ⟨N + 1 + 1 + 1 + 1 + 1 + 1, 0, none⟩), .slice none 0 0, .int .i64 0] 46)

theorem seven (W : World) (n : Nat) (hn : W.heap.size = n) (o1 o2 o3 o4 o5 o6 o7 : Obj) (X : World) (hX : X = ((((((W.alloc o1).alloc o2).alloc o3).alloc o4).alloc o5).alloc o6).alloc o7) :
    X.heap.size = n + 7 ∧ Tch (fun _ => False) W X ∧ (∀ a v, (W.alloc o1).cell? a = some v → X.cell? a = some v) ∧ X.heap[n + 1]? = some o2 ∧ X.heap[n + 2]? = some o3 ∧ X.heap[n + 3]? = some o4 ∧ X.heap[n + 5]? = some o6 ∧ X.heap[n + 6]? = some o7 := by
  subst hn
  subst hX
  have s1 : (W.alloc o1).heap.size = W.heap.size + 1 := by simp
  have s2 : ((W.alloc o1).alloc o2).heap.size = W.heap.size + 2 := by simp
  have s3 : (((W.alloc o1).alloc o2).alloc o3).heap.size = W.heap.size + 3 := by simp
  have s4 : ((((W.alloc o1).alloc o2).alloc o3).alloc o4).heap.size = W.heap.size + 4 := by simp
  have s5 : (((((W.alloc o1).alloc o2).alloc o3).alloc o4).alloc o5).heap.size = W.heap.size + 5 := by simp
  have s6 : ((((((W.alloc o1).alloc o2).alloc o3).alloc o4).alloc o5).alloc o6).heap.size = W.heap.size + 6 := by simp
  refine ⟨by simp, (((((((Tch.refl _ W).alloc _).alloc _).alloc _).alloc _).alloc _).alloc _).alloc _, fun a v h => ?_, ?_, ?_, ?_, ?_, ?_⟩
  · exact ((((((Tch.refl (fun _ => False) (W.alloc o1)).alloc o2).alloc o3).alloc o4).alloc o5).alloc o6).alloc o7 |>.cell h (fun e => e)
  · rw [Below.heap_alloc _ _ _ (by omega), Below.heap_alloc _ _ _ (by omega), Below.heap_alloc _ _ _ (by omega), Below.heap_alloc _ _ _ (by omega), Below.heap_alloc _ _ _ (by omega), ← s1]
    exact block_new _ _
  · rw [Below.heap_alloc _ _ _ (by omega), Below.heap_alloc _ _ _ (by omega), Below.heap_alloc _ _ _ (by omega), Below.heap_alloc _ _ _ (by omega), ← s2]
    exact block_new _ _
  · rw [Below.heap_alloc _ _ _ (by omega), Below.heap_alloc _ _ _ (by omega), Below.heap_alloc _ _ _ (by omega), ← s3]
    exact block_new _ _
  · rw [Below.heap_alloc _ _ _ (by omega), ← s5]
    exact block_new _ _
  · rw [← s6]
    exact block_new _ _

structure PreS (W2 W : World) (N p m j ej : Nat) (G : Bool) : Prop where
  size : W.heap.size = N + 8
  old : Tch (fun _ => False) W2 W
  cD : W.cell? ⟨N + 7, 1, none⟩ = some (.pointer (some ⟨N + 6, 0, none⟩))
  reads : Reads W (N + 6) j (N + 3) (N + 4) N (m + 1) ej (N + 2) (N + 1) ((p + 1) * 5) (N + 5) G

theorem preS {W2 : World} {o2 : Obj} {N p m j ej : Nat} (G : Bool) (hz : W2.heap.size = N + 1) (c1 : W2.cell? ⟨N, j, none⟩ = some (.int .i32 ej)) (c2 : ∀ t, t < (p + 1) * 5 → (W2.alloc o2).cell? ⟨W2.heap.size, t * 3, none⟩ = some (.int .u64 0)) : PreS W2 (atS W2 o2 N p m G) N p m j ej G := by
  obtain ⟨sz, tt, hkeep, bO, bL, bW, bC, bD⟩ := seven W2 (N + 1) hz _ _ _ _ _ _ _ (atS W2 o2 N p m G) rfl
  rw [hz] at c2
  generalize atS W2 o2 N p m G = W at *
  exact ⟨sz, tt, cell_block bD 1, cell_block bC 20, free_made bC 20, cell_block bC 0, cell_block bC 4, cell_block bO 0, fun t ht => hkeep _ _ (c2 t ht), cell_block bL 7, cell_block bL 17, cell_block bW 0, tt.cell c1 (fun e => e), cell_block bW 11, free_made bW 11⟩

set_option maxHeartbeats 1000000 in
set_option maxRecDepth 100000 in
theorem law_main (a0 : Option Addr) (b off len cap m j : Nat) (s : Int) (G : Bool) (B : Nat → Int) (e : Nat → Nat) (w : World) (hm : m + 1 ≤ 1024) (hn : (len = 0 ∧ m = 0) ∨ len = m + 1) (ha : 0 < len → a0 = some ⟨b, off, none⟩) (hs0 : 0 ≤ s) (hs1 : s ≤ 255) (hj : s % ((m : Int) + 1) = (j : Int)) (hjm : j < m + 1)
    (he8 : ∀ i, e i < 8) (he0 : ∀ i, len ≤ i → e i = 0) (hB0 : ∀ i, i < len → 0 ≤ B i ∧ B i ≤ 255 ∧ B i % 8 = (e i : Int))
    (hc : ∀ i, i < len → b < w.heap.size ∧ w.cell? ⟨b, off + i, none⟩ = some (.int .u8 (B i))) :
    Calls Yba.prog 4 #[.slice a0 len cap, .int .u8 s, .bool G] w fun e w' => e = .returned (.bool true) ∧ Below w.heap.size w w' := by
  have h2 : ¬ (1024 : Int) < (len : Int) := by omega
  obtain ⟨o1, hmk1, c1, f1⟩ := make37z m hm w
  have C1 := hide c1
  have F1 := hide f1
  have HC := hide hc
  have HA := hide ha
  have HB := hide hB0
  have HE := hide he0
  clear c1 f1 hc hB0 he0 ha
  go_enter Yba.func4, Yba.ntmps4
  go_upto_if 25 with fail
  go_cut [7] (fun v wx => v = .int .i64 ((m : Int) + 1) ∧ wx = w)
  case first =>
    rcases hn with ⟨rfl, rfl⟩ | rfl
    · go_wp2_with fail
      go_meet
      exact ⟨by go_num, rfl⟩
    · have h3 : ((m : Int) + 1 == 0) = false := by simp; omega
      go_wp2_with fail
      go_meet
      exact ⟨by go_num, rfl⟩
  case rest =>
    obtain ⟨rfl, rfl⟩ := hcut
    have hsz1 : (wc.alloc o1).heap.size = wc.heap.size + 1 := by simp
    have T1 : Hid (Tch (fun x => x = wc.heap.size) wc (wc.alloc o1)) := (Tch.refl _ wc).alloc _
    go_upto_region 8 with fail
    clear hmk1
    generalize wc.alloc o1 = W1 at *
    go_wp2_with fail
    go_loopw [9, 10] (fun mx ii wx => ∃ k p : Nat, k ≤ len ∧ mx = .int .i64 p ∧ ii = .int .i64 k ∧ p < 8 ∧ (∀ i, i < k → e i ≤ p) ∧ Tch (fun x => x = wc.heap.size) wc wx ∧ wx.heap.size = wc.heap.size + 1 ∧ (∀ t, t < m + 1 → wx.cell? ⟨wc.heap.size, t, none⟩ = some (.int .i32 ((if t < k then e t else 0 : Nat) : Int))) ∧ Free wx wc.heap.size) (fun _ ii _ => len - (intOf ii).toNat)
    case atStart => exact ⟨0, 0, by omega, rfl, rfl, by omega, fun i hi => by omega, T1.out, hsz1, fun t ht => by rw [C1.out t ht]; simp, F1.out⟩
    case round =>
      obtain ⟨k, p, hk, rfl, rfl, hp8, hmx, tw, hz, cc, fr⟩ := hrel
      clear C1 F1 T1
      by_cases hlt : k < len
      · have hltI : (k : Int) < (len : Int) := by omega
        obtain rfl := HA.out (by omega)
        obtain ⟨hb, kb⟩ := HC.out k hlt
        have kc : wr.cell? ⟨b, off + k, none⟩ = some (.int .u8 (B k)) := tw.cell kb (by show ¬ b = wc.heap.size; omega)
        obtain ⟨y0, y1, y2⟩ := HB.out k hlt
        have hkm : k < m + 1 := by omega
        have hkI : (k : Int) < (m : Int) + 1 := by omega
        have ck := cc k hkm
        have fk := fr k
        have hek := he8 k
        have hekI : (e k : Int) < 8 := by omega
        have CC := hide cc
        have FR := hide fr
        have TW := hide tw
        have HMX := hide hmx
        have step : Hid (∀ v, v = ((e k : Nat) : Int) → Tch (fun x => x = wc.heap.size) wc (wr.setCell ⟨wc.heap.size, k, none⟩ (.int .i32 v)) ∧ (wr.setCell ⟨wc.heap.size, k, none⟩ (.int .i32 v)).heap.size = wc.heap.size + 1 ∧ (∀ t, t < m + 1 → (wr.setCell ⟨wc.heap.size, k, none⟩ (.int .i32 v)).cell? ⟨wc.heap.size, t, none⟩ = some (.int .i32 ((if t < k + 1 then e t else 0 : Nat) : Int))) ∧ Free (wr.setCell ⟨wc.heap.size, k, none⟩ (.int .i32 v)) wc.heap.size) := by
          rintro v rfl
          refine ⟨tw.setCell (p := ⟨wc.heap.size, k, none⟩) rfl _, by simp [World.setCell, hz], fun t ht => ?_, fr.set _ _⟩
          by_cases htk : t = k
          · subst htk
            rw [World.cell?_setCell_same _ _ _ ck]
            simp
          · rw [World.cell?_setCell_other _ _ _ _ (fun e' => by injection e'; omega), cc t ht]
            by_cases h : t < k
            · rw [if_pos h, if_pos (by omega)]
            · rw [if_neg h, if_neg (by omega)]
        clear cc fr tw hmx kb
        by_cases hgt : p < e k
        · have hgtI : (p : Int) < (e k : Int) := by omega
          go_wp2_with fail
          go_roundw
          case rel =>
            obtain ⟨s1, s2, s3, s4⟩ := step.out _ rfl
            exact ⟨k + 1, e k, by omega, rfl, by go_num, hek, fun i hi => by
              by_cases h : i = k
              · rw [h]; exact Nat.le_refl _
              · have := HMX.out i (by omega); omega, s1, s2, s3, s4⟩
          case measure => simp [intOf]; omega
        · have hgtI : ¬ (p : Int) < (e k : Int) := by omega
          go_wp2_with fail
          go_roundw
          case rel =>
            obtain ⟨s1, s2, s3, s4⟩ := step.out _ rfl
            exact ⟨k + 1, p, by omega, rfl, by go_num, hp8, fun i hi => by
              by_cases h : i = k
              · rw [h]; omega
              · exact HMX.out i (by omega), s1, s2, s3, s4⟩
          case measure => simp [intOf]; omega
      · have hge : ¬ (k : Int) < (len : Int) := by omega
        obtain ⟨W2, hW2⟩ : ∃ x, x = wr := ⟨wr, rfl⟩
        subst hW2
        have hpI : (p : Int) < 8 := by omega
        obtain ⟨o2, hmk2, c2⟩ := make51 p hp8 W2
        have C2 := hide c2
        have CC : Hid (∀ t, t < m + 1 → W2.cell? ⟨wc.heap.size, t, none⟩ = some (.int .i32 (e t))) := fun t ht => by
          rw [cc t ht]
          by_cases h : t < k
          · rw [if_pos h]
          · rw [if_neg h, HE.out t (by omega)]
        have HMX : Hid (∀ i, e i ≤ p) := fun i => by
          by_cases h : i < k
          · exact hmx i h
          · rw [HE.out i (by omega)]; omega
        have TW := hide tw
        clear c2 cc fr tw hmx
        go_upto_region 21 with fail
        have PR := hide (preS (m := m) (j := j) G hz (CC.out j hjm) C2.out)
        change Code.wp _ _ _ _ (atS W2 o2 wc.heap.size p m G)
        clear hmk2 C2
        generalize atS W2 o2 wc.heap.size p m G = W4 at *
        go_wp2_with fail
        have pr := PR.out
        have hun : Calls Yba.prog 9 #[.pointer (some ⟨wc.heap.size + 1 + 1 + 1 + 1 + 1 + 1 + 1, 0, none⟩), .int .i64 j] W4 fun x w' => x = .returned (.tuple #[]) ∧ Tch (fun x => x = wc.heap.size + 6 ∨ x = wc.heap.size + 4) W4 w' ∧ w'.cell? ⟨wc.heap.size + 1 + 1 + 1 + 1 + 1 + 1, 20, none⟩ = some (.slice (some ⟨wc.heap.size + 5, 0, none⟩) 0 3) ∧ w'.cell? ⟨wc.heap.size + 1 + 1 + 1 + 1 + 1 + 1, 4, none⟩ = some (.pointer (some ⟨wc.heap.size + 1 + 1, 0, none⟩)) :=
          unwaited (wc.heap.size + 7) (wc.heap.size + 6) j (wc.heap.size + 3) (wc.heap.size + 4) wc.heap.size (m + 1) (e j) (wc.heap.size + 2) (wc.heap.size + 1) ((p + 1) * 5) (wc.heap.size + 5) G W4 pr.cD hjm (he8 j) (by have := HMX.out j; cases G <;> simp [per] <;> omega) (by omega) pr.reads
        refine hun.mono ?_
        rintro x W5 ⟨rfl, t5, k20, k4⟩
        have kD : W5.cell? ⟨wc.heap.size + 1 + 1 + 1 + 1 + 1 + 1 + 1, 1, none⟩ = some (.pointer (some ⟨wc.heap.size + 1 + 1 + 1 + 1 + 1 + 1, 0, none⟩)) := t5.cell pr.cD (by show ¬ (wc.heap.size + 7 = _ ∨ wc.heap.size + 7 = _); omega)
        have kO : W5.cell? ⟨wc.heap.size + 1 + 1, 0, none⟩ = some (.slice (some ⟨wc.heap.size + 1, 0, none⟩) ((p + 1) * 5) ((p + 1) * 5)) := t5.cell pr.reads.cO (by show ¬ (wc.heap.size + 2 = _ ∨ wc.heap.size + 2 = _); omega)
        have KE : Hid (∀ t, t < m + 1 → W5.cell? ⟨wc.heap.size, t, none⟩ = some (.int .i32 (e t))) := fun t ht => t5.cell (pr.old.cell (CC.out t ht) (fun e => e)) (by show ¬ (wc.heap.size = _ ∨ wc.heap.size = _); omega)
        have KB : Hid (∀ i, i < len → W5.cell? ⟨b, off + i, none⟩ = some (.int .u8 (B i))) := fun i hi => by
          obtain ⟨hb, kb⟩ := HC.out i hi
          exact t5.cell (pr.old.cell (TW.out.cell kb (by show ¬ b = wc.heap.size; omega)) (fun e => e)) (by show ¬ (b = _ ∨ b = _); omega)
        have BEL : Hid (Below wc.heap.size wc W5) := ⟨t5.os.trans (pr.old.os.trans TW.out.os), t5.tape.trans (pr.old.tape.trans TW.out.tape), t5.output.trans (pr.old.output.trans TW.out.output), Nat.le_trans TW.out.size (Nat.le_trans pr.old.size t5.size),
          fun x hx => (t5.block x (by have := pr.size; omega) (by omega)).trans ((pr.old.block x (by omega) (fun e => e)).trans (TW.out.block x hx (by omega)))⟩
        have hpp : ((((p : Int) + 1) * 5) != (((p : Int) + 1) * 5)) = false := by simp
        have q1 := neq44 ⟨wc.heap.size + 1 + 1 + 1 + 1 + 1 + 1, 0, none⟩ W5
        have q2 := neq50 ⟨wc.heap.size + 1 + 1, 0, none⟩ W5
        clear t5 pr PR hun TW CC HC
        go_wp2_with fail
        go_loopw [17] (fun ii wx => ∃ i : Nat, i ≤ m + 1 ∧ ii = .int .i64 i ∧ wx = W5) (fun ii _ => (m + 1) - (intOf ii).toNat)
        case atStart => exact ⟨0, Nat.zero_le _, rfl, rfl⟩
        case round =>
          obtain ⟨i, him, rfl, rfl⟩ := hrel
          by_cases hi : i < m + 1
          · have hiI : (i : Int) < (m : Int) + 1 := by omega
            have ke := KE.out i hi
            have hxx : ((e i : Int) != (e i : Int)) = false := by simp
            have hei : (e i : Int) < 8 := by have := he8 i; omega
            by_cases hil : i < len
            · have hilI : (i : Int) < (len : Int) := by omega
              obtain rfl := HA.out (by omega)
              have kb := KB.out i hil
              obtain ⟨y0, y1, y2⟩ := HB.out i hil
              go_wp2_with fail
              go_roundw
              case rel => exact ⟨i + 1, by omega, by go_num, trivial⟩
              case measure => simp [intOf]; omega
            · have hilI : ¬ (i : Int) < (len : Int) := by omega
              rw [HE.out i (by omega)] at ke
              go_wp2_with fail
              go_roundw
              case rel => exact ⟨i + 1, by omega, by go_num, trivial⟩
              case measure => simp [intOf]; omega
          · have hiI : ¬ (i : Int) < (m : Int) + 1 := by omega
            go_wp2_with fail
            go_ret
            exact ⟨rfl, BEL.out⟩

end St
end Go.Proofs.Ybulkaylc
