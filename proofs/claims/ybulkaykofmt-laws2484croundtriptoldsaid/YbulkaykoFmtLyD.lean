import Derived.Test.YbulkaykoFmtLyC
namespace Go.Proofs.YbulkaykoFmt
open Go.RowKit
set_option linter.unusedVariables false
namespace Ly

/-- What the walk is told of the bytes that came in. -/
def IsData (w : World) (a : Option Addr) (len : Nat) (z : Nat → Int) : Prop :=
  len = 0 ∨ ∃ b off, a = some ⟨b, off, none⟩ ∧ b < w.heap.size ∧ ∀ i, i < len → w.cell? ⟨b, off + i, none⟩ = some (.int .u8 (z i))

theorem IsData.below {w w' : World} {a : Option Addr} {len : Nat} {z : Nat → Int} (h : IsData w a len z) (hb : Below w.heap.size w w') : IsData w' a len z := by
  rcases h with h | ⟨b, off, ha, hlt, hc⟩
  · exact Or.inl h
  · exact Or.inr ⟨b, off, ha, Nat.lt_of_lt_of_le hlt hb.size, fun i hi => by rw [hb.cell (p := ⟨b, off + i, none⟩) hlt]; exact hc i hi⟩

theorem copy_any (a : Option Addr) (len cap g : Nat) (z f : Nat → Int) (w : World) (hr : Row w g f len) (hd : IsData w a len z) :
    ∃ w2, Sem.run Ybaf.prog (Builtin.copy_ #[23, 23] 3 #[.slice (some ⟨g, 0, none⟩) len len, .slice a len cap]) w = .ok (.int .i64 len) w2 ∧ Row w2 g z len ∧ Below g w w2 ∧ w2.heap.size = w.heap.size := by
  rcases hd with rfl | ⟨b, off, rfl, hlt, hc⟩
  · exact ⟨w, run_copy_none (P := Ybaf.prog) w 23 23 3 5 (some ⟨g, 0, none⟩) a 0 0 0 cap Ybaf.underlying23 (by kernel_rfl) rfl, ⟨hr.lt, fun j hj => absurd hj (Nat.not_lt_zero _), hr.free⟩, Below.refl _ _, rfl⟩
  · refine ⟨w.setCells g 0 (cellsOf z len), ?_, ?_, below_setCells (Nat.le_refl _) _ _ _, size_setCells _ _ _ _⟩
    · have h := run_copy_cells (P := Ybaf.prog) w 23 23 3 5 g 0 len len ⟨b, off, none⟩ len cap (cellsOf z len) Ybaf.underlying23 (by kernel_rfl) (by rw [cellsOf_length]; exact (Nat.min_self _).symm)
        (fun j v hv => by obtain ⟨hj, rfl⟩ := cellsOf_inv hv; rw [Addr.add_lit]; exact hc j hj) (fun j hj => by rw [cellsOf_length] at hj; rw [Nat.zero_add, hr.cell j hj]; rfl) (fun j _ => hr.free _) cellsOf_one
      rw [h, cellsOf_length]
      rfl
    · have h := hr.setCells z 0 len (by omega)
      refine ⟨h.lt, fun j hj => ?_, h.free⟩
      rw [h.cell j hj]
      show some (Value.int .u8 (if 0 ≤ j ∧ j < 0 + len then z (j - 0) else f j)) = _
      rw [if_pos (by omega)]
      rfl

theorem eq_any (pz a : Option Addr) (G len cap : Nat) (z F : Nat → Int) (w : World) (hl : len ≤ 4096) (hp : 0 < len → pz = some ⟨G, 12, none⟩) (hc : ∀ j, j < len → w.cell? ⟨G, 12 + j, none⟩ = some (.int .u8 (z j))) (hd : IsData w a len z) :
    Calls Ybaf.prog 6 #[.slice pz len len, .slice a len cap] w fun e w' => e = .returned (.bool true) ∧ ∃ n, w' = w.drewN n := by
  rcases Nat.eq_zero_or_pos len with rfl | hpos
  · exact eq_empty _ _ _ _ w
  · rcases hd with rfl | ⟨b, off, rfl, hlt, hcs⟩
    · omega
    · obtain rfl := hp hpos
      exact eq_same G 12 len b off cap len z w hl hc hcs

theorem encode' (opc dpc si ni mp sls : Int) (g n : Nat) (z : Nat → Int) (w : World) (h0 : 0 ≤ opc) (h1 : opc < 4294967296) (h2 : 0 ≤ dpc) (h3 : dpc < 4294967296) (hn : n ≤ 4096) (hr : Row w g z n) :
    Calls Ybaf.prog 5 #[.agg #[.int .u32 opc, .int .u32 dpc, .int .u8 si, .int .u8 ni, .int .u8 mp, .int .u8 sls, .slice (some ⟨g, 0, none⟩) n n]] w fun e w' =>
      ∃ G, e = .returned (.slice (some ⟨G, 0, none⟩) (12 + n) (12 + n)) ∧ Row w' G (encB opc dpc si ni mp sls z n) (12 + n) ∧ Below w.heap.size w w' :=
  (encode opc dpc si ni mp sls g n z w h0 h1 h2 h3 hn hr).mono fun _ _ ⟨he, hr, hb⟩ => ⟨_, he, hr, hb⟩

set_option maxHeartbeats 400000 in
theorem law_long (a0 : Option Addr) (len cap : Nat) (opc dpc si ni mp sls : Int) (w : World) (hl : 4096 < len) (hm : len ≤ maxLen) :
    Calls Ybaf.prog 3 #[.agg #[.int .u32 opc, .int .u32 dpc, .int .u8 si, .int .u8 ni, .int .u8 mp, .int .u8 sls, .slice a0 len cap]] w fun e w' => e = .returned (.bool true) ∧ Below w.heap.size w w' := by
  unfold maxLen at hm
  go_enter Ybaf.func3, Ybaf.ntmps3
  go_wp2
  go_ret
  exact ⟨rfl, (Below.refl _ _).alloc (Nat.le_refl _) _⟩

set_option maxHeartbeats 1000000 in
set_option maxRecDepth 100000 in
theorem law_short (a : Option Addr) (len cap : Nat) (z : Nat → Int) (opc dpc si ni mp sls : Int) (w : World) (h0 : 0 ≤ opc) (h1 : opc < 4294967296) (h2 : 0 ≤ dpc) (h3 : dpc < 4294967296) (hl : len ≤ 4096) (hd : IsData w a len z) :
    Calls Ybaf.prog 3 #[.agg #[.int .u32 opc, .int .u32 dpc, .int .u8 si, .int .u8 ni, .int .u8 mp, .int .u8 sls, .slice a len cap]] w fun e w' => e = .returned (.bool true) ∧ Below w.heap.size w w' := by
  have hmk := run_make_row' (P := Ybaf.prog) 23 5 (.int .u8 0) 1 Ybaf.underlying23 info5 rfl .i64 .i64 len (by omega) (by omega)
  have hl' : ¬ 4096 < (len : Int) := by omega
  have hB1 : Below w.heap.size w ((w.alloc (.cells #[.int .u32 opc, .int .u32 dpc, .int .u8 si, .int .u8 ni, .int .u8 mp, .int .u8 sls, .slice a len cap] 25)).alloc (.cells (madeCells #[.int .u8 0] len) 5)) :=
    ((Below.refl _ _).alloc (Nat.le_refl _) _).alloc (by simp) _
  have hx1 : Box ((w.alloc (.cells #[.int .u32 opc, .int .u32 dpc, .int .u8 si, .int .u8 ni, .int .u8 mp, .int .u8 sls, .slice a len cap] 25)).alloc (.cells (madeCells #[.int .u8 0] len) 5)) w.heap.size (.int .u32 opc) (.int .u32 dpc) (.int .u8 si) (.int .u8 ni) (.int .u8 mp) (.int .u8 sls) (.slice a len cap) :=
    (box_made w _ _ _ _ _ _ _ 25).below ((Below.refl (w.heap.size + 1) _).alloc (by simp) _) (by omega)
  have hr1 : Row ((w.alloc (.cells #[.int .u32 opc, .int .u32 dpc, .int .u8 si, .int .u8 ni, .int .u8 mp, .int .u8 sls, .slice a len cap] 25)).alloc (.cells (madeCells #[.int .u8 0] len) 5)) (w.heap.size + 1) (fun _ => 0) len := by
    have := row_made (w.alloc (.cells #[.int .u32 opc, .int .u32 dpc, .int .u8 si, .int .u8 ni, .int .u8 mp, .int .u8 sls, .slice a len cap] 25)) len 0 5
    simpa using this
  obtain ⟨W2, hcp, hr2, hb2, hs2⟩ := copy_any a len cap (w.heap.size + 1) z _ _ hr1 (hd.below hB1)
  have hB2 := hB1.trans (hb2.mono (Nat.le_succ _))
  have hx2 := hx1.below hb2 (by omega)
  have hs : W2.heap.size = w.heap.size + 2 := by rw [hs2]; simp
  clear hs2 hb2 hr1 hx1 hB1
  have HX := hx2
  obtain ⟨x0, x1, x2, x3, x4, x5, x6⟩ := hx2
  go_enter Ybaf.func3, Ybaf.ntmps3
  go_wp2_with fail
  have hx3 := HX.below ((Below.refl (w.heap.size + 1) W2).alloc (by omega) (.cells #[.int .u32 opc, .int .u32 dpc, .int .u8 si, .int .u8 ni, .int .u8 mp, .int .u8 sls, .slice (some ⟨w.heap.size + 1, 0, none⟩) len len] 26)) (by omega)
  have hr3 := hr2.alloc (.cells #[.int .u32 opc, .int .u32 dpc, .int .u8 si, .int .u8 ni, .int .u8 mp, .int .u8 sls, .slice (some ⟨w.heap.size + 1, 0, none⟩) len len] 26)
  have hB3 := hB2.alloc (by omega) (.cells #[.int .u32 opc, .int .u32 dpc, .int .u8 si, .int .u8 ni, .int .u8 mp, .int .u8 sls, .slice (some ⟨w.heap.size + 1, 0, none⟩) len len] 26)
  refine (encode' opc dpc si ni mp sls (w.heap.size + 1) len z _ h0 h1 h2 h3 hl hr3).mono ?_
  rintro e W4 ⟨G, rfl, hr4, hb4⟩
  have hsz : w.heap.size + 2 < (W2.alloc (.cells #[.int .u32 opc, .int .u32 dpc, .int .u8 si, .int .u8 ni, .int .u8 mp, .int .u8 sls, .slice (some ⟨w.heap.size + 1, 0, none⟩) len len] 26)).heap.size := by simp; omega
  have hB4 := hB3.trans (hb4.mono (by omega))
  have hx4 := hx3.below hb4 (by omega)
  have hsz4 : w.heap.size < W4.heap.size := by have := hb4.size; omega
  clear hsz hb4 hB3 hr3 hx3 x0 x1 x2 x3 x4 x5 x6 HX hs hB2 hr2 hcp hmk
  go_wp2_with fail
  refine (parse opc dpc si ni mp sls G len z _ h0 h1 h2 h3 hl hr4).mono ?_
  rintro e W5 ⟨pz, rfl, hpz, hb5⟩
  have hB5 := hB4.trans (hb5.mono (by omega))
  have hx5 := hx4.below hb5 hsz4
  have hr5 := hr4.below hb5 hr4.lt
  have hsz5 : w.heap.size < W5.heap.size := by have := hb5.size; omega
  have hd5 := hd.below hB5
  have HP := hide hpz
  have HR := hide hr5
  have HD := hide hd5
  clear hb5 hx4 hr4 hB4 hsz4 hpz hr5 hd5 hd
  obtain ⟨x0, x1, x2, x3, x4, x5, x6⟩ := hx5
  go_wp2_with fail
  have hb6 := (Below.refl W5.heap.size W5).alloc (Nat.le_refl _) (.cells #[.int .u32 opc, .int .u32 dpc, .int .u8 si, .int .u8 ni, .int .u8 mp, .int .u8 sls, .slice pz len len] 26)
  have hr6 := HR.out.below hb6 HR.out.lt
  have hB6 := hB5.trans (hb6.mono hB5.size)
  refine (eq_any pz a G len cap z (fun _ => 0) _ hl HP.out (fun j hj => by rw [hr6.cell (12 + j) (by omega), encB_data _ _ _ _ _ _ _ _ j hj]) (HD.out.below hb6)).mono ?_
  rintro e W7 ⟨rfl, nq, rfl⟩
  clear hr6 hb6
  go_wp2_with fail
  go_ret
  exact ⟨rfl, below_drewN hB6 nq⟩

theorem walk (opc dpc si ni mp sls : Int) (a : Option Addr) (len cap : Nat) (z : Nat → Int) (w : World) (h0 : 0 ≤ opc ∧ opc < 4294967296) (h1 : 0 ≤ dpc ∧ dpc < 4294967296) (hm : len ≤ maxLen) (hd : IsData w a len z) :
    Calls Ybaf.prog 3 #[.agg #[.int .u32 opc, .int .u32 dpc, .int .u8 si, .int .u8 ni, .int .u8 mp, .int .u8 sls, .slice a len cap]] w fun e w' => e = .returned (.bool true) ∧ Below w.heap.size w w' := by
  rcases Nat.lt_or_ge 4096 len with hl | hl
  · exact law_long _ len cap opc dpc si ni mp sls w hl hm
  · exact law_short a len cap z opc dpc si ni mp sls w h0.1 h0.2 h1.1 h1.2 hl hd

end Ly
end Go.Proofs.YbulkaykoFmt
