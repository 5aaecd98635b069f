import Derived.Test.YbulkaykoRdE
namespace Go.Proofs.Ybulkayko
open Go.RowKit
set_option linter.unusedVariables false
namespace Rd

set_option maxRecDepth 100000 in
set_option maxHeartbeats 1000000 in
theorem law_v0 (va : Option Addr) (b off len cap vcap : Nat) (ks : Nat → ByteArray) (w : World) (hl : len ≤ 1024) (hb : b < w.heap.size)
    (hK : ∀ i, i < len → w.cell? ⟨b, off + i, none⟩ = some (.string (ks i)))
    (sK : ∀ i, i < len → (ks i).size ≤ maxLen) :
    Calls Yba.prog 3 #[.slice (some ⟨b, off, none⟩) len cap, .slice va 0 vcap] w fun e w' => e = .returned (.bool true) ∧ Below w.heap.size w w' := by
  have h1 : ¬ (1024 : Int) < (len : Int) := by omega
  have hmm := @run_makeMap Yba.prog
  have hmf : ∀ (fn : Fn) (first cap : Array Value) (w : World), (Instr.makeFunc fn first cap).run Yba.prog w = .ok (.func fn first cap) w := fun _ _ _ _ => rfl
  have HK := hide hK
  have HsK := hide sK
  clear hK sK
  go_enter Yba.func3, Yba.ntmps3
  go_wp2_with fail
  go_loopw [6] (fun i wr => ∃ k : Nat, k ≤ len ∧ i = .int .i64 k ∧ St w wr (.slice (some ⟨b, off, none⟩) len cap) k ks) (fun i _ => len - (intOf i).toNat)
  case atStart => exact ⟨0, Nat.zero_le _, rfl, St.start w _ ks rfl⟩
  case round =>
    obtain ⟨k, hk, rfl, st⟩ := hrel
    have cK := st.cK
    have cM : wr.cell? ⟨w.heap.size + 1 + 1, 0, none⟩ = some (.map (some (w.heap.size + 1))) := st.cM
    have hsz := st.size
    have ST := hide st
    clear st
    by_cases hlt : k < len
    · have kc : wr.cell? ⟨b, off + k, none⟩ = some (.string (ks k)) := by rw [ST.out.bel.cell (p := ⟨b, off + k, none⟩) hb]; exact HK.out k hlt
      obtain ⟨w1, hup, hm1, ht1⟩ := MapOk.store (w := wr.drew) (ST.out.map.of_block rfl) (by omega) ⟨#[]⟩ (HsK.out k hlt) (Nat.zero_le _)
      have hlt' : (k : Int) < (len : Int) := by omega
      have std : St w wr.drew (.slice (some ⟨b, off, none⟩) len cap) k ks := ⟨ST.out.size, ST.out.bel.drew, ST.out.cK, ST.out.cM, ST.out.map.of_block rfl⟩
      have ST1 := hide (std.step hm1 ht1)
      clear std
      clear hm1 ht1
      go_wp2_with fail
      go_region
      go_wp2_with fail
      go_roundw
      case rel => exact ⟨k + 1, by omega, by go_num, ST1.out⟩
      case measure => simp [intOf]; omega
    · obtain rfl : k = len := by omega
      have PR := hide (ST.out.pre HsK.out)
      have pr := PR.out
      have HKr := hide (fun i hi => by rw [pr.bel.cell (p := ⟨b, off + i, none⟩) hb]; exact HK.out i hi : ∀ i, i < k → (atRead wr w.heap.size).cell? ⟨b, off + i, none⟩ = some (.string (ks i)))
      clear pr
      go_wp2_with fail
      have pr := PR.out
      refine (read b off k cap w.heap.size ks (atRead wr w.heap.size) hl pr.hz pr.cC pr.cS pr.cO pr.cM pr.cK pr.c15 pr.c16 pr.fC pr.lk pr.looks hb HKr.out).mono ?_
      rintro e w2 ⟨rfl, fr, lk2, y6⟩
      have yC : w2.cell? ⟨w.heap.size + 3 + 1 + 1 + 1, 0, none⟩ = some (.int .i64 1) := y6
      have yS : w2.cell? ⟨w.heap.size + 3 + 1 + 1, 0, none⟩ = some (.pointer (some ⟨w.heap.size + 3 + 1, 0, none⟩)) := (World.cell?_of_block (w := atRead wr w.heap.size) (fr.block (w.heap.size + 5) (by omega) (by omega) (by omega))).trans pr.cS
      have yO : w2.cell? ⟨w.heap.size + 3 + 1 + 1 + 1 + 1, 0, none⟩ = some (.bool true) := (World.cell?_of_block (w := atRead wr w.heap.size) (fr.block (w.heap.size + 7) (by omega) (by omega) (by omega))).trans pr.cO
      have B2 : Below w.heap.size w w2 := ⟨fr.os.trans pr.bel.os, fr.tape.trans pr.bel.tape, fr.output.trans pr.bel.output, by have := fr.size; omega, fun j hj => (fr.block j (by omega) (by omega) (by omega)).trans (pr.bel.block j hj)⟩
      have LK := hide lk2
      clear fr lk2 y6 pr cK cM
      go_wp2_with fail
      refine (try_free (w.heap.size + 4) w2 LK.out).mono ?_
      rintro e w3 ⟨rfl, lk3, kp3⟩
      have zS : w3.cell? ⟨w.heap.size + 3 + 1 + 1, 0, none⟩ = some (.pointer (some ⟨w.heap.size + 3 + 1, 0, none⟩)) := (World.cell?_of_block (w := w2) (kp3.block (w.heap.size + 5) (by omega))).trans yS
      have zO : w3.cell? ⟨w.heap.size + 3 + 1 + 1 + 1 + 1, 0, none⟩ = some (.bool true) := (World.cell?_of_block (w := w2) (kp3.block (w.heap.size + 7) (by omega))).trans yO
      have B3 : Below w.heap.size w w3 := ⟨kp3.os.trans B2.os, kp3.tape.trans B2.tape, kp3.output.trans B2.output, by rw [kp3.size]; exact B2.size, fun j hj => (kp3.block j (by omega)).trans (B2.block j hj)⟩
      have LK3 := hide lk3
      clear lk3 kp3 yC yS yO LK B2
      go_wp2_with fail
      refine (unlock (w.heap.size + 4) w3 LK3.out).mono ?_
      rintro e w4 ⟨rfl, lk4, kp4⟩
      have xO : w4.cell? ⟨w.heap.size + 3 + 1 + 1 + 1 + 1, 0, none⟩ = some (.bool true) := (World.cell?_of_block (w := w3) (kp4.block (w.heap.size + 7) (by omega))).trans zO
      have B4 : Below w.heap.size w w4 := ⟨kp4.os.trans B3.os, kp4.tape.trans B3.tape, kp4.output.trans B3.output, by rw [kp4.size]; exact B3.size, fun j hj => (kp4.block j (by omega)).trans (B3.block j hj)⟩
      clear lk4 kp4 zS zO LK3 B3
      go_wp2_with fail
      go_ret
      exact ⟨rfl, B4⟩

set_option maxRecDepth 100000 in
set_option maxHeartbeats 1000000 in
theorem law_k0 (a va : Option Addr) (cap vlen vcap : Nat) (w : World) (hv : vlen ≤ 1024) :
    Calls Yba.prog 3 #[.slice a 0 cap, .slice va vlen vcap] w fun e w' => e = .returned (.bool true) ∧ Below w.heap.size w w' := by
  have h2 : ¬ (1024 : Int) < (vlen : Int) := by omega
  have hmm := @run_makeMap Yba.prog
  have hmf : ∀ (fn : Fn) (first cap : Array Value) (w : World), (Instr.makeFunc fn first cap).run Yba.prog w = .ok (.func fn first cap) w := fun _ _ _ _ => rfl
  go_enter Yba.func3, Yba.ntmps3
  go_wp2_with fail
  go_loopw [6] (fun i wr => i = .int .i64 0 ∧ St w wr (.slice a 0 cap) 0 (fun _ => ByteArray.empty)) (fun i _ => 0)
  case atStart => exact ⟨rfl, St.start w _ _ rfl⟩
  case round =>
    obtain ⟨rfl, st⟩ := hrel
    have cK := st.cK
    have cM : wr.cell? ⟨w.heap.size + 1 + 1, 0, none⟩ = some (.map (some (w.heap.size + 1))) := st.cM
    have hsz := st.size
    have ST := hide st
    clear st
    have PR := hide (ST.out.pre (fun i hi => absurd hi (Nat.not_lt_zero _)))
    go_wp2_with fail
    have pr := PR.out
    refine (read0 a cap w.heap.size _ (atRead wr w.heap.size) pr.hz pr.cC pr.cS pr.cO pr.cM pr.cK pr.c15 pr.c16 pr.fC pr.lk pr.looks).mono ?_
    rintro e w2 ⟨rfl, fr, lk2, y6⟩
    have yC : w2.cell? ⟨w.heap.size + 3 + 1 + 1 + 1, 0, none⟩ = some (.int .i64 1) := y6
    have yS : w2.cell? ⟨w.heap.size + 3 + 1 + 1, 0, none⟩ = some (.pointer (some ⟨w.heap.size + 3 + 1, 0, none⟩)) := (World.cell?_of_block (w := atRead wr w.heap.size) (fr.block (w.heap.size + 5) (by omega) (by omega) (by omega))).trans pr.cS
    have yO : w2.cell? ⟨w.heap.size + 3 + 1 + 1 + 1 + 1, 0, none⟩ = some (.bool true) := (World.cell?_of_block (w := atRead wr w.heap.size) (fr.block (w.heap.size + 7) (by omega) (by omega) (by omega))).trans pr.cO
    have B2 : Below w.heap.size w w2 := ⟨fr.os.trans pr.bel.os, fr.tape.trans pr.bel.tape, fr.output.trans pr.bel.output, by have := fr.size; omega, fun j hj => (fr.block j (by omega) (by omega) (by omega)).trans (pr.bel.block j hj)⟩
    have LK := hide lk2
    clear fr lk2 y6 pr cK cM
    go_wp2_with fail
    refine (try_free (w.heap.size + 4) w2 LK.out).mono ?_
    rintro e w3 ⟨rfl, lk3, kp3⟩
    have zS : w3.cell? ⟨w.heap.size + 3 + 1 + 1, 0, none⟩ = some (.pointer (some ⟨w.heap.size + 3 + 1, 0, none⟩)) := (World.cell?_of_block (w := w2) (kp3.block (w.heap.size + 5) (by omega))).trans yS
    have zO : w3.cell? ⟨w.heap.size + 3 + 1 + 1 + 1 + 1, 0, none⟩ = some (.bool true) := (World.cell?_of_block (w := w2) (kp3.block (w.heap.size + 7) (by omega))).trans yO
    have B3 : Below w.heap.size w w3 := ⟨kp3.os.trans B2.os, kp3.tape.trans B2.tape, kp3.output.trans B2.output, by rw [kp3.size]; exact B2.size, fun j hj => (kp3.block j (by omega)).trans (B2.block j hj)⟩
    have LK3 := hide lk3
    clear lk3 kp3 yC yS yO LK B2
    go_wp2_with fail
    refine (unlock (w.heap.size + 4) w3 LK3.out).mono ?_
    rintro e w4 ⟨rfl, lk4, kp4⟩
    have xO : w4.cell? ⟨w.heap.size + 3 + 1 + 1 + 1 + 1, 0, none⟩ = some (.bool true) := (World.cell?_of_block (w := w3) (kp4.block (w.heap.size + 7) (by omega))).trans zO
    have B4 : Below w.heap.size w w4 := ⟨kp4.os.trans B3.os, kp4.tape.trans B3.tape, kp4.output.trans B3.output, by rw [kp4.size]; exact B3.size, fun j hj => (kp4.block j (by omega)).trans (B3.block j hj)⟩
    clear lk4 kp4 zS zO LK3 B3
    go_wp2_with fail
    go_ret
    exact ⟨rfl, B4⟩


end Rd
end Go.Proofs.Ybulkayko
