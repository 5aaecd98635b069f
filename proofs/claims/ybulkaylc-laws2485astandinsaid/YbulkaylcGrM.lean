import Derived.Test.YbulkaylcSwB
namespace Go.Proofs.Ybulkaylc
namespace Gr
open Sw (put put_same put_other)

/-- An injective map of [0, a) into [0, b): a is at most b. -/
theorem inj_le : ∀ (b a : Nat) (f : Nat → Nat), (∀ i, i < a → f i < b) → (∀ i j, i < a → j < a → f i = f j → i = j) → a ≤ b
  | 0, a, f, h, _ => by
    rcases Nat.eq_zero_or_pos a with h0 | h0
    · omega
    · exact absurd (h 0 h0) (Nat.not_lt_zero _)
  | b + 1, 0, f, h, hi => Nat.zero_le _
  | b + 1, a + 1, f, h, hi => by
    have := inj_le b a (fun i => if f i = b then f a else f i) (fun i hi' => by
        show (if f i = b then f a else f i) < b
        have h1 := h i (by omega)
        have h2 := h a (by omega)
        by_cases e : f i = b
        · rw [if_pos e]
          have : f a ≠ b := fun e' => by have := hi i a (by omega) (by omega) (e.trans e'.symm); omega
          omega
        · rw [if_neg e]; omega) (fun i j hi' hj' e => by
        have e' : (if f i = b then f a else f i) = (if f j = b then f a else f j) := e
        by_cases e1 : f i = b <;> by_cases e2 : f j = b
        · exact hi i j (by omega) (by omega) (e1.trans e2.symm)
        · rw [if_pos e1, if_neg e2] at e'; have := hi a j (by omega) (by omega) e'; omega
        · rw [if_neg e1, if_pos e2] at e'; have := hi i a (by omega) (by omega) e'; omega
        · rw [if_neg e1, if_neg e2] at e'; exact hi i j (by omega) (by omega) e')
    omega

/-- THE FILLING: rows 0 .. c-1 are laid: the transactions of groups below k, and those of group k below i. -/
structure Fil (n : Nat) (g : Nat → Nat) (c k i : Nat) (tx pos E : Nat → Nat) : Prop where
  row : ∀ p, p < c → tx p < n ∧ pos (tx p) = p ∧ (g (tx p) < k ∨ (g (tx p) = k ∧ tx p < i))
  all : ∀ t, t < n → (g t < k ∨ (g t = k ∧ t < i)) → pos t < c ∧ tx (pos t) = t
  ends : ∀ q, q < k → E q ≤ c ∧ ∀ p, p < c → (p < E q ↔ g (tx p) ≤ q)

theorem Fil.le {n : Nat} {g : Nat → Nat} {c k i : Nat} {tx pos E : Nat → Nat} (h : Fil n g c k i tx pos E) : c ≤ n :=
  inj_le n c tx (fun p hp => (h.row p hp).1) (fun p q hp hq e => by rw [← (h.row p hp).2.1, ← (h.row q hq).2.1, e])

theorem Fil.start (n : Nat) (g tx pos E : Nat → Nat) : Fil n g 0 0 0 tx pos E :=
  ⟨fun p hp => by omega, fun t _ h => by omega, fun q hq => by omega⟩

/-- The next transaction is not of group k. -/
theorem Fil.skip {n : Nat} {g : Nat → Nat} {c k i : Nat} {tx pos E : Nat → Nat} (h : Fil n g c k i tx pos E) (hg : g i ≠ k) : Fil n g c k (i + 1) tx pos E := by
  refine ⟨fun p hp => ?_, fun t ht hh => ?_, h.ends⟩
  · obtain ⟨a, b, d⟩ := h.row p hp
    exact ⟨a, b, by omega⟩
  · refine h.all t ht ?_
    rcases hh with h1 | ⟨h1, h2⟩
    · exact Or.inl h1
    · right
      refine ⟨h1, ?_⟩
      rcases Nat.lt_or_ge t i with h' | h'
      · exact h'
      · have : t = i := by omega
        subst this
        exact absurd h1 hg

/-- .. is of group k: it is laid behind the last. -/
theorem Fil.take {n : Nat} {g : Nat → Nat} {c k i : Nat} {tx pos E : Nat → Nat} (h : Fil n g c k i tx pos E) (hi : i < n) (hg : g i = k) : Fil n g (c + 1) k (i + 1) (put tx c i) (put pos i c) E := by
  have hnew : ∀ p, p < c → tx p ≠ i := fun p hp e => by
    obtain ⟨_, _, d⟩ := h.row p hp
    rw [e] at d
    omega
  refine ⟨fun p hp => ?_, fun t ht hh => ?_, fun q hq => ?_⟩
  · by_cases e : p = c
    · subst e
      rw [put_same, put_same]
      exact ⟨hi, rfl, by omega⟩
    · obtain ⟨a, b, d⟩ := h.row p (by omega)
      rw [put_other _ _ e, put_other _ _ (hnew p (by omega))]
      exact ⟨a, b, by omega⟩
  · by_cases e : t = i
    · subst e
      rw [put_same, put_same]
      exact ⟨by omega, rfl⟩
    · have := h.all t ht (by rcases hh with h1 | ⟨h1, h2⟩; exact Or.inl h1; exact Or.inr ⟨h1, by omega⟩)
      rw [put_other _ _ e, put_other _ _ (by omega)]
      exact ⟨by omega, this.2⟩
  · obtain ⟨a, b⟩ := h.ends q hq
    refine ⟨by omega, fun p hp => ?_⟩
    by_cases e : p = c
    · subst e
      rw [put_same]
      omega
    · rw [put_other _ _ e]
      exact b p (by omega)

/-- A group is through: its end is laid. -/
theorem Fil.next {n : Nat} {g : Nat → Nat} {c k : Nat} {tx pos E : Nat → Nat} (h : Fil n g c k n tx pos E) : Fil n g c (k + 1) 0 tx pos (put E k c) := by
  refine ⟨fun p hp => ?_, fun t ht hh => ?_, fun q hq => ?_⟩
  · obtain ⟨a, b, d⟩ := h.row p hp
    exact ⟨a, b, by omega⟩
  · exact h.all t ht (by omega)
  · by_cases e : q = k
    · subst e
      rw [put_same]
      refine ⟨Nat.le_refl _, fun p hp => ⟨fun _ => ?_, fun _ => hp⟩⟩
      obtain ⟨_, _, d⟩ := h.row p hp
      omega
    · rw [put_other _ _ e]
      exact h.ends q (by omega)

/-- All five groups are laid. -/
structure Good (n : Nat) (g : Nat → Nat) (tx pos E : Nat → Nat) : Prop where
  row : ∀ p, p < n → tx p < n ∧ pos (tx p) = p
  all : ∀ t, t < n → pos t < n ∧ tx (pos t) = t
  ends : ∀ q, q < 5 → E q ≤ n ∧ ∀ p, p < n → (p < E q ↔ g (tx p) ≤ q)

theorem Fil.good {n : Nat} {g : Nat → Nat} {c : Nat} {tx pos E : Nat → Nat} (h : Fil n g c 5 0 tx pos E) (hg : ∀ t, t < n → g t < 5) : c = n ∧ Good n g tx pos E := by
  have h1 := h.le
  have h2 : n ≤ c := inj_le c n pos (fun t ht => (h.all t ht (Or.inl (hg t ht))).1) (fun a b ha hb e => by
    rw [← (h.all a ha (Or.inl (hg a ha))).2, ← (h.all b hb (Or.inl (hg b hb))).2, e])
  obtain rfl : c = n := by omega
  exact ⟨rfl, fun p hp => ⟨(h.row p hp).1, (h.row p hp).2.1⟩, fun t ht => h.all t ht (Or.inl (hg t ht)), h.ends⟩

theorem Good.mono {n : Nat} {g tx pos E : Nat → Nat} (h : Good n g tx pos E) {a b : Nat} (hab : a ≤ b) (hb : b < 5) : E a ≤ E b := by
  rcases Nat.lt_or_ge (E b) (E a) with hlt | hge
  · have ha := h.ends a (by omega)
    have hb' := h.ends b hb
    have h1 := (ha.2 (E b) (by omega)).1 hlt
    have h2 := (hb'.2 (E b) (by omega)).2 (by omega)
    omega
  · exact hge

theorem Good.last {n : Nat} {g tx pos E : Nat → Nat} (h : Good n g tx pos E) (hg : ∀ t, t < n → g t < 5) : E 4 = n := by
  have h4 := h.ends 4 (by omega)
  rcases Nat.lt_or_ge (E 4) n with hlt | hge
  · have := (h4.2 (E 4) hlt).2 (by have := hg _ (h.row (E 4) hlt).1; omega)
    omega
  · omega

/-- THE REMOVAL, ahead of group k. -/
structure Rem (n : Nat) (g E : Nat → Nat) (j k : Nat) (tx ws en : Nat → Nat) (hole : Nat) : Prop where
  hole_lt : hole < n
  en_eq : ∀ q, q < 5 → en q = if g j ≤ q ∧ q < k then E q - 1 else E q
  row : ∀ p, p < n → p ≠ hole → tx p < n ∧ tx p ≠ j ∧ ws (tx p) = p
  grp : ∀ p, p < n → p ≠ hole → ∀ q, q < 5 → (p < en q ↔ g (tx p) ≤ q)
  lo : ∀ q, q < k → q < 5 → en q ≤ hole
  hi : ∀ q, k ≤ q → q < 5 → hole < E q

theorem Good.rem {n : Nat} {g tx pos E : Nat → Nat} (h : Good n g tx pos E) (j : Nat) (hj : j < n) : Rem n g E j (g j) tx pos E (pos j) := by
  refine ⟨(h.all j hj).1, fun q hq => by rw [if_neg (by omega)], fun p hp hne => ?_, fun p hp _ q hq => (h.ends q hq).2 p hp, fun q hq h5 => ?_, fun q h1 h2 => ?_⟩
  · refine ⟨(h.row p hp).1, fun e => hne ?_, (h.row p hp).2⟩
    rw [← (h.row p hp).2, e]
  · have hh := ((h.ends q h5).2 (pos j) (h.all j hj).1)
    rw [(h.all j hj).2] at hh
    rcases Nat.lt_or_ge (pos j) (E q) with h' | h'
    · have := hh.1 h'; omega
    · exact h'
  · have hh := ((h.ends q h2).2 (pos j) (h.all j hj).1)
    rw [(h.all j hj).2] at hh
    exact hh.2 (by omega)

/-- The last of group k is the hole: nothing is moved. -/
theorem Rem.stay {n : Nat} {g pos0 tx0 E : Nat → Nat} {j k : Nat} {tx ws en : Nat → Nat} {hole : Nat} (hG : Good n g tx0 pos0 E) (h : Rem n g E j k tx ws en hole) (hk : k < 5) (hj : g j ≤ k) (he : E k - 1 = hole) :
    Rem n g E j (k + 1) tx ws (put en k (E k - 1)) hole := by
  have hlt := h.hi k (Nat.le_refl _) hk
  refine ⟨h.hole_lt, fun q hq => ?_, h.row, fun p hp hne q hq => ?_, fun q hq h5 => ?_, fun q h1 h2 => ?_⟩
  · by_cases e : q = k
    · subst e; rw [put_same, if_pos (by omega)]
    · rw [put_other _ _ e, h.en_eq q hq]
      by_cases c : g j ≤ q ∧ q < k
      · rw [if_pos c, if_pos (by omega)]
      · rw [if_neg c, if_neg (by omega)]
  · by_cases e : q = k
    · subst e
      rw [put_same]
      have := h.grp p hp hne q hq
      rw [h.en_eq q hq, if_neg (by omega)] at this
      rw [← this]
      omega
    · rw [put_other _ _ e]; exact h.grp p hp hne q hq
  · by_cases e : q = k
    · subst e; rw [put_same]; omega
    · rw [put_other _ _ e]; exact h.lo q (by omega) h5
  · have := hG.mono (a := k) (b := q) (by omega) h2
    omega

/-- The last of group k goes into the hole, and is the hole now. -/
theorem Rem.move {n : Nat} {g pos0 tx0 E : Nat → Nat} {j k : Nat} {tx ws en : Nat → Nat} {hole : Nat} (hG : Good n g tx0 pos0 E) (h : Rem n g E j k tx ws en hole) (hk : k < 5) (hj : g j ≤ k) (he : E k - 1 ≠ hole) :
    Rem n g E j (k + 1) (put tx hole (tx (E k - 1))) (put ws (tx (E k - 1)) hole) (put en k (E k - 1)) (E k - 1) := by
  have hlt := h.hi k (Nat.le_refl _) hk
  have hEn := (hG.ends k hk).1
  have hrl := h.row (E k - 1) (by omega) he
  refine ⟨by omega, fun q hq => ?_, fun p hp hne => ?_, fun p hp hne q hq => ?_, fun q hq h5 => ?_, fun q h1 h2 => ?_⟩
  · by_cases e : q = k
    · subst e; rw [put_same, if_pos (by omega)]
    · rw [put_other _ _ e, h.en_eq q hq]
      by_cases c : g j ≤ q ∧ q < k
      · rw [if_pos c, if_pos (by omega)]
      · rw [if_neg c, if_neg (by omega)]
  · by_cases e : p = hole
    · subst e; rw [put_same, put_same]; exact ⟨hrl.1, hrl.2.1, rfl⟩
    · have hr := h.row p hp e
      rw [put_other _ _ e, put_other _ _ (fun e' => hne (by rw [← hr.2.2, e', hrl.2.2]))]
      exact hr
  · have hgl := h.grp (E k - 1) (by omega) he q hq
    have hmono : k ≤ q → E k ≤ E q := fun hkq => hG.mono hkq hq
    by_cases e : p = hole
    · subst e
      rw [put_same, ← hgl, h.en_eq q hq]
      by_cases e' : q = k
      · subst e'
        rw [put_same, if_neg (by omega)]
        omega
      · rw [put_other _ _ e', h.en_eq q hq]
        rcases Nat.lt_or_ge q k with hqk | hqk
        · have hlo := h.lo q hqk hq
          rw [h.en_eq q hq] at hlo
          omega
        · rw [if_neg (by omega)]
          have := hmono hqk
          omega
    · rw [put_other _ _ e]
      have hgp := h.grp p hp e q hq
      by_cases e' : q = k
      · subst e'
        rw [put_same, ← hgp, h.en_eq q hq, if_neg (by omega)]
        omega
      · rw [put_other _ _ e']; exact hgp
  · by_cases e : q = k
    · subst e; rw [put_same]; exact Nat.le_refl _
    · rw [put_other _ _ e]; have := h.lo q (by omega) h5; omega
  · have := hG.mono (a := k) (b := q) (by omega) h2
    omega

end Gr
end Go.Proofs.Ybulkaylc
