import Derived.Test.YbulkaykoRdD
import Derived.Carry
import Derived.RegionTactic
namespace Go.Proofs.Ybulkayko
open Go.RowKit
set_option linter.unusedVariables false
namespace Rd

set_option maxHeartbeats 400000 in
theorem law_long1 (a va : Option Addr) (len cap vlen vcap : Nat) (w : World) (hl : 1024 < len) (hm : len ≤ maxLen) :
    Calls Yba.prog 3 #[.slice a len cap, .slice va vlen vcap] w fun e w' => e = .returned (.bool true) ∧ Below w.heap.size w w' := by
  unfold maxLen at hm
  have h1 : (1024 : Int) < (len : Int) := by omega
  go_enter Yba.func3, Yba.ntmps3
  go_wp2
  go_ret
  exact ⟨rfl, (Below.refl _ _).alloc (Nat.le_refl _) _⟩

set_option maxHeartbeats 400000 in
theorem law_long2 (a va : Option Addr) (len cap vlen vcap : Nat) (w : World) (hl : len ≤ 1024) (hv : 1024 < vlen) (hm : vlen ≤ maxLen) :
    Calls Yba.prog 3 #[.slice a len cap, .slice va vlen vcap] w fun e w' => e = .returned (.bool true) ∧ Below w.heap.size w w' := by
  unfold maxLen at hm
  have h1 : ¬ (1024 : Int) < (len : Int) := by omega
  have h2 : (1024 : Int) < (vlen : Int) := by omega
  go_enter Yba.func3, Yba.ntmps3
  go_wp2
  go_ret
  exact ⟨rfl, (Below.refl _ _).alloc (Nat.le_refl _) _⟩

/-- What the filling loop keeps. -/
structure St (w wr : World) (kv : Value) (k : Nat) (ks : Nat → ByteArray) : Prop where
  size : wr.heap.size = w.heap.size + 3
  bel : Below w.heap.size w wr
  cK : wr.cell? ⟨w.heap.size, 0, none⟩ = some kv
  cM : wr.cell? ⟨w.heap.size + 2, 0, none⟩ = some (.map (some (w.heap.size + 1)))
  map : MapOk wr (w.heap.size + 1) k ks

theorem St.start (w : World) (kv : Value) (ks : Nat → ByteArray) (h1 : kv.oneCell' = true) :
    St w (((w.alloc (.cells #[kv] 22)).alloc (.map #[] 0)).alloc (.cells #[.map (some (w.heap.size + 1))] 23)) kv 0 ks := by
  refine ⟨by simp, (((Below.refl _ _).alloc (Nat.le_refl _) _).alloc (by simp) _).alloc (by simp; omega) _, ?_, ?_, ?_⟩
  · rw [World.cell?_of_block (w := w.alloc (.cells #[kv] 22)) (by rw [Below.heap_alloc _ _ _ (by simp; omega), Below.heap_alloc _ _ _ (by simp)]), cell_new _ _ _ _ _ rfl]; rfl
  · rw [cell_new _ _ _ _ _ (by simp)]; rfl
  · have := mapOk_made (w.alloc (.cells #[kv] 22)) ks
    rw [show (w.alloc (.cells #[kv] 22)).heap.size = w.heap.size + 1 by simp] at this
    exact this.of_block (Below.heap_alloc _ _ _ (by simp))

theorem St.step {w wr w1 : World} {kv : Value} {k : Nat} {ks : Nat → ByteArray} (h : St w wr kv k ks) (hm : MapOk w1 (w.heap.size + 1) (k + 1) ks) (ht : Tn (w.heap.size + 1) wr w1) : St w w1 kv (k + 1) ks :=
  ⟨ht.size.trans h.size, ⟨ht.os.trans h.bel.os, ht.tape.trans h.bel.tape, ht.output.trans h.bel.output, by rw [ht.size]; exact h.bel.size, fun j hj => (ht.block j (by omega)).trans (h.bel.block j hj)⟩,
   by rw [World.cell?_of_block (w := wr) (ht.block w.heap.size (by omega))]; exact h.cK, by rw [World.cell?_of_block (w := wr) (ht.block (w.heap.size + 2) (by omega))]; exact h.cM, hm⟩

/-- The world in which 'read' is called. -/
def atRead (wr : World) (N : Nat) : World :=
  ((((wr.alloc (.map #[] 0)).alloc (.cells #[.string ⟨#[]⟩, .pointer none, .pointer none, .int .i32 0, .int .u32 0, .pointer none, .int .i64 0, .int .i64 0, .nilIface, .int .i32 0, .int .u32 0, .int .u32 0, .int .u32 0, .int .i32 0, .int .i32 0, .map (some (N + 1)), .map (some (N + 3))] 45)).alloc
    (.cells #[.pointer (some ⟨N + 4, 0, none⟩)] 24)).alloc (.cells #[.int .i64 0] 3)).alloc (.cells #[.bool true] 4)

theorem five (wr : World) (n : Nat) (hn : wr.heap.size = n) (o3 o4 o5 o6 o7 : Obj) :
    (((((wr.alloc o3).alloc o4).alloc o5).alloc o6).alloc o7).heap.size = n + 5 ∧ (∀ k, k < n → (((((wr.alloc o3).alloc o4).alloc o5).alloc o6).alloc o7).heap[k]? = wr.heap[k]?) ∧
    (((((wr.alloc o3).alloc o4).alloc o5).alloc o6).alloc o7).heap[n + 1]? = some o4 ∧ (((((wr.alloc o3).alloc o4).alloc o5).alloc o6).alloc o7).heap[n + 2]? = some o5 ∧
    (((((wr.alloc o3).alloc o4).alloc o5).alloc o6).alloc o7).heap[n + 3]? = some o6 ∧ (((((wr.alloc o3).alloc o4).alloc o5).alloc o6).alloc o7).heap[n + 4]? = some o7 := by
  subst hn
  have s1 : (wr.alloc o3).heap.size = wr.heap.size + 1 := by simp
  have s2 : ((wr.alloc o3).alloc o4).heap.size = wr.heap.size + 2 := by simp
  have s3 : (((wr.alloc o3).alloc o4).alloc o5).heap.size = wr.heap.size + 3 := by simp
  have s4 : ((((wr.alloc o3).alloc o4).alloc o5).alloc o6).heap.size = wr.heap.size + 4 := by simp
  refine ⟨by simp, fun k hk => ?_, ?_, ?_, ?_, ?_⟩
  · rw [Below.heap_alloc _ _ _ (by omega), Below.heap_alloc _ _ _ (by omega), Below.heap_alloc _ _ _ (by omega), Below.heap_alloc _ _ _ (by omega), Below.heap_alloc _ _ _ hk]
  · rw [Below.heap_alloc _ _ _ (by omega), Below.heap_alloc _ _ _ (by omega), Below.heap_alloc _ _ _ (by omega)]
    have := block_new (wr.alloc o3) o4
    rwa [s1] at this
  · rw [Below.heap_alloc _ _ _ (by omega), Below.heap_alloc _ _ _ (by omega)]
    have := block_new ((wr.alloc o3).alloc o4) o5
    rwa [s2] at this
  · rw [Below.heap_alloc _ _ _ (by omega)]
    have := block_new (((wr.alloc o3).alloc o4).alloc o5) o6
    rwa [s3] at this
  · have := block_new ((((wr.alloc o3).alloc o4).alloc o5).alloc o6) o7
    rwa [s4] at this

theorem cell_block {w : World} {g : Nat} {cs : Array Value} {t : TypeId} (h : w.heap[g]? = some (.cells cs t)) (i : Nat) : w.cell? ⟨g, i, none⟩ = cs[i]? := by simp [World.cell?, h]
theorem free_block {w : World} {g : Nat} {cs : Array Value} {t : TypeId} (h : w.heap[g]? = some (.cells cs t)) (i : Nat) : w.frozen? ⟨g, i, none⟩ = false := by simp [World.frozen?, h]

/-- What 'read' asks. -/
structure Pre (w W : World) (kv : Value) (len : Nat) (ks : Nat → ByteArray) : Prop where
  hz : W.heap.size = w.heap.size + 8
  bel : Below w.heap.size w W
  cC : W.cell? ⟨w.heap.size + 6, 0, none⟩ = some (.int .i64 0)
  cS : W.cell? ⟨w.heap.size + 5, 0, none⟩ = some (.pointer (some ⟨w.heap.size + 4, 0, none⟩))
  cO : W.cell? ⟨w.heap.size + 7, 0, none⟩ = some (.bool true)
  cM : W.cell? ⟨w.heap.size + 2, 0, none⟩ = some (.map (some (w.heap.size + 1)))
  cK : W.cell? ⟨w.heap.size, 0, none⟩ = some kv
  c15 : W.cell? ⟨w.heap.size + 4, 15, none⟩ = some (.map (some (w.heap.size + 1)))
  c16 : W.cell? ⟨w.heap.size + 4, 16, none⟩ = some (.map (some (w.heap.size + 3)))
  fC : W.frozen? ⟨w.heap.size + 6, 0, none⟩ = false
  lk : Lk W (w.heap.size + 4) 0 0
  looks : Looks W (w.heap.size + 1) len ks

theorem St.pre {w wr : World} {kv : Value} {k : Nat} {ks : Nat → ByteArray} (h : St w wr kv k ks) (hk : ∀ i, i < k → (ks i).size ≤ maxLen) : Pre w (atRead wr w.heap.size) kv k ks := by
  obtain ⟨hz, hold, b4, b5, b6, b7⟩ := five wr (w.heap.size + 3) h.size (.map #[] 0) (.cells #[.string ⟨#[]⟩, .pointer none, .pointer none, .int .i32 0, .int .u32 0, .pointer none, .int .i64 0, .int .i64 0, .nilIface, .int .i32 0, .int .u32 0, .int .u32 0, .int .u32 0, .int .i32 0, .int .i32 0, .map (some (w.heap.size + 1)), .map (some (w.heap.size + 3))] 45) (.cells #[.pointer (some ⟨w.heap.size + 4, 0, none⟩)] 24) (.cells #[.int .i64 0] 3) (.cells #[.bool true] 4)
  refine ⟨hz, ?_, cell_block b6 0, cell_block b5 0, cell_block b7 0, ?_, ?_, cell_block b4 15, cell_block b4 16, free_block b6 0, ⟨cell_block b4 9, ⟨_, cell_block b4 10⟩, ⟨_, cell_block b4 11⟩, ⟨_, cell_block b4 12⟩, cell_block b4 13, fun j => free_block b4 j⟩, ?_⟩
  · exact ⟨h.bel.os, h.bel.tape, h.bel.output, by show _ ≤ (atRead wr w.heap.size).heap.size; unfold atRead; rw [hz]; omega, fun j hj => (hold j (by omega)).trans (h.bel.block j hj)⟩
  · exact (World.cell?_of_block (w := wr) (a := ⟨w.heap.size + 2, 0, none⟩) (hold (w.heap.size + 2) (by omega))).trans h.cM
  · exact (World.cell?_of_block (w := wr) (a := ⟨w.heap.size, 0, none⟩) (hold w.heap.size (by omega))).trans h.cK
  · exact (h.map.of_block (hold _ (by omega))).looks hk

set_option maxRecDepth 100000 in
set_option maxHeartbeats 1000000 in
theorem law_vv (b off len cap vb voff vlen vcap : Nat) (ks vs : Nat → ByteArray) (w : World) (hl : len ≤ 1024) (hv : vlen ≤ 1024) (hvp : 0 < vlen) (hb : b < w.heap.size) (hvb : vb < w.heap.size)
    (hK : ∀ i, i < len → w.cell? ⟨b, off + i, none⟩ = some (.string (ks i))) (hV : ∀ i, i < vlen → w.cell? ⟨vb, voff + i, none⟩ = some (.string (vs i)))
    (sK : ∀ i, i < len → (ks i).size ≤ maxLen) (sV : ∀ i, i < vlen → (vs i).size ≤ maxLen) :
    Calls Yba.prog 3 #[.slice (some ⟨b, off, none⟩) len cap, .slice (some ⟨vb, voff, none⟩) vlen vcap] w fun e w' => e = .returned (.bool true) ∧ Below w.heap.size w w' := by
  have h1 : ¬ (1024 : Int) < (len : Int) := by omega
  have h2 : ¬ (1024 : Int) < (vlen : Int) := by omega
  have h3 : (0 : Int) < (vlen : Int) := by omega
  have hmm := @run_makeMap Yba.prog
  have hmf : ∀ (fn : Fn) (first cap : Array Value) (w : World), (Instr.makeFunc fn first cap).run Yba.prog w = .ok (.func fn first cap) w := fun _ _ _ _ => rfl
  have HK := hide hK
  have HV := hide hV
  have HsK := hide sK
  have HsV := hide sV
  clear hK hV sK sV
  go_enter Yba.func3, Yba.ntmps3
  go_wp2_with fail
  go_loopw [6] (fun i wr => ∃ k : Nat, k ≤ len ∧ i = .int .i64 k ∧ St w wr (.slice (some ⟨b, off, none⟩) len cap) k ks) (fun i _ => len - (intOf i).toNat)
  case atStart => exact ⟨0, Nat.zero_le _, rfl, St.start w _ ks rfl⟩
  case round =>
    obtain ⟨k, hk, rfl, st⟩ := hrel
    have cK := st.cK
    have cM : wr.cell? ⟨w.heap.size + 1 + 1, 0, none⟩ = some (.map (some (w.heap.size + 1))) := st.cM
    have hsz := st.size
    have ST := hide st
    clear st
    by_cases hlt : k < len
    · have kc : wr.cell? ⟨b, off + k, none⟩ = some (.string (ks k)) := by rw [ST.out.bel.cell (p := ⟨b, off + k, none⟩) hb]; exact HK.out k hlt
      have hmod : k % vlen < vlen := Nat.mod_lt _ hvp
      have vc : wr.cell? ⟨vb, voff + k % vlen, none⟩ = some (.string (vs (k % vlen))) := by rw [ST.out.bel.cell (p := ⟨vb, voff + k % vlen, none⟩) hvb]; exact HV.out _ hmod
      obtain ⟨w1, hup, hm1, ht1⟩ := MapOk.store (w := wr.drew) (ST.out.map.of_block rfl) (by omega) (vs (k % vlen)) (HsK.out k hlt) (HsV.out _ hmod)
      have hlt' : (k : Int) < (len : Int) := by omega
      have std : St w wr.drew (.slice (some ⟨b, off, none⟩) len cap) k ks := ⟨ST.out.size, ST.out.bel.drew, ST.out.cK, ST.out.cM, ST.out.map.of_block rfl⟩
      have ST1 := hide (std.step hm1 ht1)
      clear std
      clear hm1 ht1
      have hmi : (k : Int) % (vlen : Int) < (vlen : Int) := Int.emod_lt_of_pos _ h3
      have hm0 : 0 ≤ (k : Int) % (vlen : Int) := Int.emod_nonneg _ (by omega)
      go_wp2_with fail
      go_region
      go_wp2_with fail
      go_roundw
      case rel => exact ⟨k + 1, by omega, by go_num, ST1.out⟩
      case measure => simp [intOf]; omega
    · obtain rfl : k = len := by omega
      have PR := hide (ST.out.pre HsK.out)
      have pr := PR.out
      have HKr := hide (fun i hi => by rw [pr.bel.cell (p := ⟨b, off + i, none⟩) hb]; exact HK.out i hi : ∀ i, i < k → (atRead wr w.heap.size).cell? ⟨b, off + i, none⟩ = some (.string (ks i)))
      clear pr
      go_wp2_with fail
      have pr := PR.out
      refine (read b off k cap w.heap.size ks (atRead wr w.heap.size) hl pr.hz pr.cC pr.cS pr.cO pr.cM pr.cK pr.c15 pr.c16 pr.fC pr.lk pr.looks hb HKr.out).mono ?_
      rintro e w2 ⟨rfl, fr, lk2, y6⟩
      have yC : w2.cell? ⟨w.heap.size + 3 + 1 + 1 + 1, 0, none⟩ = some (.int .i64 1) := y6
      have yS : w2.cell? ⟨w.heap.size + 3 + 1 + 1, 0, none⟩ = some (.pointer (some ⟨w.heap.size + 3 + 1, 0, none⟩)) := (World.cell?_of_block (w := atRead wr w.heap.size) (fr.block (w.heap.size + 5) (by omega) (by omega) (by omega))).trans pr.cS
      have yO : w2.cell? ⟨w.heap.size + 3 + 1 + 1 + 1 + 1, 0, none⟩ = some (.bool true) := (World.cell?_of_block (w := atRead wr w.heap.size) (fr.block (w.heap.size + 7) (by omega) (by omega) (by omega))).trans pr.cO
      have B2 : Below w.heap.size w w2 := ⟨fr.os.trans pr.bel.os, fr.tape.trans pr.bel.tape, fr.output.trans pr.bel.output, by have := fr.size; omega, fun j hj => (fr.block j (by omega) (by omega) (by omega)).trans (pr.bel.block j hj)⟩
      have LK := hide lk2
      clear fr lk2 y6 pr cK cM
      go_wp2_with fail
      refine (try_free (w.heap.size + 4) w2 LK.out).mono ?_
      rintro e w3 ⟨rfl, lk3, kp3⟩
      have zS : w3.cell? ⟨w.heap.size + 3 + 1 + 1, 0, none⟩ = some (.pointer (some ⟨w.heap.size + 3 + 1, 0, none⟩)) := (World.cell?_of_block (w := w2) (kp3.block (w.heap.size + 5) (by omega))).trans yS
      have zO : w3.cell? ⟨w.heap.size + 3 + 1 + 1 + 1 + 1, 0, none⟩ = some (.bool true) := (World.cell?_of_block (w := w2) (kp3.block (w.heap.size + 7) (by omega))).trans yO
      have B3 : Below w.heap.size w w3 := ⟨kp3.os.trans B2.os, kp3.tape.trans B2.tape, kp3.output.trans B2.output, by rw [kp3.size]; exact B2.size, fun j hj => (kp3.block j (by omega)).trans (B2.block j hj)⟩
      have LK3 := hide lk3
      clear lk3 kp3 yC yS yO LK B2
      go_wp2_with fail
      refine (unlock (w.heap.size + 4) w3 LK3.out).mono ?_
      rintro e w4 ⟨rfl, lk4, kp4⟩
      have xO : w4.cell? ⟨w.heap.size + 3 + 1 + 1 + 1 + 1, 0, none⟩ = some (.bool true) := (World.cell?_of_block (w := w3) (kp4.block (w.heap.size + 7) (by omega))).trans zO
      have B4 : Below w.heap.size w w4 := ⟨kp4.os.trans B3.os, kp4.tape.trans B3.tape, kp4.output.trans B3.output, by rw [kp4.size]; exact B3.size, fun j hj => (kp4.block j (by omega)).trans (B3.block j hj)⟩
      clear lk4 kp4 zS zO LK3 B3
      go_wp2_with fail
      go_ret
      exact ⟨rfl, B4⟩

end Rd
end Go.Proofs.Ybulkayko
