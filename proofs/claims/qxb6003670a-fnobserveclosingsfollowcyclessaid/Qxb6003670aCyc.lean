/-
  WARSHALL's CLOSURE, plain; and the law of the closings.
-/
import Derived.Test.Qxb6003670aOf7
namespace Go.Proofs.Qxb6003670a.st
open Go.Proofs.Qxb6003670a.pl

/-- The edges of a table. -/
def WA (a : Nat → Nat → Bool) (x y : Nat) : Prop := x < 8 ∧ y < 8 ∧ a x y = true
/-- A way from i to j whose inner nodes lie below k. -/
def WP (a : Nat → Nat → Bool) : Nat → Nat → Nat → Prop
  | 0, i, j => a i j = true
  | k + 1, i, j => WP a k i j ∨ (WP a k i k ∧ WP a k k j)
/-- A cycle. -/
def Cyc (E : Nat → Nat → Prop) : Prop := ∃ x y, E x y ∧ Rch E y x
/-- A way of one edge or more. -/
def WS (a : Nat → Nat → Bool) (x y : Nat) : Prop := ∃ m, WA a x m ∧ Rch (WA a) m y

theorem WP.trans (a : Nat → Nat → Bool) : ∀ (k i m j : Nat), m < k → WP a k i m → WP a k m j → WP a k i j
  | 0, _, _, _, h, _, _ => by omega
  | k + 1, i, m, j, h, h1, h2 => by
    by_cases e : m = k
    · subst e
      have g1 : WP a m i m := by
        rcases h1 with h1 | h1
        · exact h1
        · exact h1.1
      have g2 : WP a m m j := by
        rcases h2 with h2 | h2
        · exact h2
        · exact h2.2
      exact Or.inr ⟨g1, g2⟩
    · have hm : m < k := by omega
      rcases h1 with h1 | ⟨h1, h1'⟩
      · rcases h2 with h2 | ⟨h2, h2'⟩
        · exact Or.inl (WP.trans a k i m j hm h1 h2)
        · exact Or.inr ⟨WP.trans a k i m k hm h1 h2, h2'⟩
      · rcases h2 with h2 | ⟨h2, h2'⟩
        · exact Or.inr ⟨h1, WP.trans a k k m j hm h1' h2⟩
        · exact Or.inr ⟨h1, h2'⟩
theorem WP.up {a : Nat → Nat → Bool} {i j : Nat} (h : a i j = true) : ∀ k, WP a k i j
  | 0 => h
  | k + 1 => Or.inl (WP.up h k)
theorem WP.of_ws {a : Nat → Nat → Bool} {x z : Nat} (h : WS a x z) : WP a 8 x z := by
  obtain ⟨m, hm, hr⟩ := h
  exact hr (fun y => WP a 8 x y) (WP.up hm.2.2 8) (fun u v hu e => WP.trans a 8 x u v e.1 hu (WP.up e.2.2 8))
theorem WS.trans {a : Nat → Nat → Bool} {x y z : Nat} (h : WS a x y) (k : WS a y z) : WS a x z := by
  obtain ⟨m, h1, h2⟩ := h
  obtain ⟨n, k1, k2⟩ := k
  exact ⟨m, h1, (h2.step k1).trans k2⟩

/-- WITHIN PHASE k, ahead of (i, j). -/
structure WI (a r : Nat → Nat → Bool) (k i j : Nat) : Prop where
  snd : ∀ x y, x < 8 → y < 8 → r x y = true → WS a x y
  full : ∀ x y, x < 8 → y < 8 → WP a k x y → r x y = true
  part : ∀ x y, x < 8 → y < 8 → lex i j x y = true → WP a (k + 1) x y → r x y = true

theorem WI.start (a : Nat → Nat → Bool) : WI a a 0 0 0 :=
  ⟨fun x y hx hy h => ⟨y, ⟨hx, hy, h⟩, Rch.refl _ _⟩, fun _ _ _ _ h => h, fun x y _ _ h => by rw [lex_zero] at h; cases h⟩
section
variable {a r : Nat → Nat → Bool} {k i j : Nat}
theorem WI.phase (h : WI a r k 8 0) : WI a r (k + 1) 0 0 :=
  ⟨h.snd, fun x y hx hy hw => h.part x y hx hy (lex_all hx) hw, fun x y _ _ h => by rw [lex_zero] at h; cases h⟩
theorem WI.row (h : WI a r k i 8) : WI a r k (i + 1) 0 :=
  ⟨h.snd, h.full, fun x y hx hy hl hw => h.part x y hx hy (by rw [lex_next hy]; exact hl) hw⟩
theorem lex_split {u v x y : Nat} (h : lex u (v + 1) x y = true) : lex u v x y = true ∨ (x = u ∧ y = v) := by
  rw [lex_step] at h
  simpa using h
theorem WI.hit (h : WI a r k i j) (hi : i < 8) (hj : j < 8) (hk : k < 8) (h1 : r i k = true) (h2 : r k j = true) : WI a (mark8 r i j) k i (j + 1) := by
  refine ⟨fun x y hx hy hr => ?_, fun x y hx hy hw => ?_, fun x y hx hy hl hw => ?_⟩
  · unfold mark8 at hr
    simp only [Bool.or_eq_true, Bool.and_eq_true, decide_eq_true_iff] at hr
    rcases hr with hr | ⟨rfl, rfl⟩
    · exact h.snd x y hx hy hr
    · exact (h.snd x k hx hk h1).trans (h.snd k y hk hy h2)
  · unfold mark8
    rw [h.full x y hx hy hw]
    rfl
  · unfold mark8
    rcases lex_split hl with hl | ⟨rfl, rfl⟩
    · rw [h.part x y hx hy hl hw]; rfl
    · simp
theorem WI.miss (h : WI a r k i j) (hi : i < 8) (hj : j < 8) (hk : k < 8) (hn : r i k = true → r k j = true → False) : WI a r k i (j + 1) := by
  refine ⟨h.snd, h.full, fun x y hx hy hl hw => ?_⟩
  rcases lex_split hl with hl | ⟨rfl, rfl⟩
  · exact h.part x y hx hy hl hw
  · rcases hw with hw | ⟨h1, h2⟩
    · exact h.full x y hx hy hw
    · exact (hn (h.full x k hi hk h1) (h.full k y hk hj h2)).elim
theorem WI.done (h : WI a r 8 0 0) : (∃ x, x < 8 ∧ r x x = true) ↔ Cyc (WA a) := by
  constructor
  · rintro ⟨x, hx, hr⟩
    obtain ⟨m, h1, h2⟩ := h.snd x x hx hx hr
    exact ⟨x, m, h1, h2⟩
  · rintro ⟨x, m, h1, h2⟩
    exact ⟨x, h1.1, h.full x x h1.1 h1.1 (WP.of_ws ⟨m, h1, h2⟩)⟩
end

/-! THE LAW OF THE CLOSINGS: U0 the union ahead of the observation, C1 the counts behind it. -/
section
variable {C : Nat → Nat → Int} {TT TT' : Nat → Nat × Nat → Option Int} {cur : Nat → Nat → Nat → Bool}

/-- The union of the sites is where the count is not 0. -/
theorem PLn.uni (h : PLn C TT cur) {x y : Nat} : WA (puni cur 4 0 0) x y ↔ After C x y := by
  unfold WA After
  rw [h.nz, puni4]
  constructor
  · rintro ⟨hx, hy, hh⟩
    simp only [Bool.or_eq_true] at hh
    rcases hh with ((h0 | h0) | h0) | h0
    · exact ⟨0, by omega, by rw [← h.tab 0 x y (by omega) hx hy]; exact h0⟩
    · exact ⟨1, by omega, by rw [← h.tab 1 x y (by omega) hx hy]; exact h0⟩
    · exact ⟨2, by omega, by rw [← h.tab 2 x y (by omega) hx hy]; exact h0⟩
    · exact ⟨3, by omega, by rw [← h.tab 3 x y (by omega) hx hy]; exact h0⟩
  · rintro ⟨s, hs, hh⟩
    obtain ⟨hx, hy⟩ := h.dom s x y hh
    refine ⟨hx, hy, ?_⟩
    have h0 := h.tab s x y hs hx hy
    rw [hh] at h0
    have : s = 0 ∨ s = 1 ∨ s = 2 ∨ s = 3 := by omega
    rcases this with rfl | rfl | rfl | rfl <;> simp [h0]
theorem cyc_iff {E F : Nat → Nat → Prop} (h : ∀ x y, E x y ↔ F x y) : Cyc E ↔ Cyc F := by
  constructor
  · rintro ⟨x, y, h1, h2⟩
    exact ⟨x, y, (h x y).1 h1, h2.mono (fun u v => (h u v).1)⟩
  · rintro ⟨x, y, h1, h2⟩
    exact ⟨x, y, (h x y).2 h1, h2.mono (fun u v => (h u v).2)⟩

variable {s : Nat} {X : List (Nat × Nat)} {d : Nat}

/-- A wait that stands behind the observation and did not ahead of it has started. -/
theorem started (h : PLn C TT cur) (hs : s < 4) {x y : Nat} (h1 : After (newC C (TT s) X) x y) (h0 : ¬ After C x y) : (x, y) ∈ stf (TT s) C X := by
  have hC : C x y = 0 := Decidable.byContradiction h0
  have hT : (TT s (x, y)).isSome = false := by
    cases hh : (TT s (x, y)).isSome with
    | false => rfl
    | true => exact absurd ((h.nz x y).2 ⟨s, hs, hh⟩) h0
  have hN : (TT s (x, y)).isNone = true := by
    cases hh : TT s (x, y) with
    | none => rfl
    | some _ => rw [hh] at hT; cases hT
  have hX : (x, y) ∈ X := by
    unfold After newC at h1
    rw [hC, hT] at h1
    apply Decidable.byContradiction
    intro hX
    simp [b2i, hX] at h1
  unfold stf
  exact List.mem_filter.2 ⟨hX, by simp [hN, hC]⟩

/-- d = 0: no new cycle. -/
theorem no_new_cycle (h : PLn C TT cur) (hs : s < 4) (hCI : CI (newC C (TT s) X) (stf (TT s) C X) [] d) (hd : d = 0) (h1 : Cyc (After (newC C (TT s) X))) : Cyc (After C) := by
  have hno : ∀ e ∈ stf (TT s) C X, ¬ Rch (After (newC C (TT s) X)) e.2 e.1 := fun e he hr => hCI.none_ hd e he (by simp) (hr.mono (fun u v huv => ⟨huv, by simp⟩))
  have hpart : ∀ u v, After (newC C (TT s) X) u v → After C u v ∨ (u, v) ∈ stf (TT s) C X := fun u v huv => by
    by_cases h0 : After C u v
    · exact Or.inl h0
    · exact Or.inr (started h hs huv h0)
  obtain ⟨x, y, e, hr⟩ := h1
  have he : After C x y := by
    rcases hpart x y e with h0 | h0
    · exact h0
    · exact absurd hr (hno _ h0)
  rcases Rch.part (F := fun f => f ∈ stf (TT s) C X) hpart hr with h0 | ⟨f, hf, h2, h3⟩
  · exact ⟨x, y, he, h0⟩
  · exact absurd ((h3.step e).trans h2) (hno f hf)
/-- d > 0: a cycle. -/
theorem closes_cycle (hCI : CI (newC C (TT s) X) (stf (TT s) C X) [] d) (hd : 0 < d) : Cyc (After (newC C (TT s) X)) := by
  obtain ⟨e, he, hr⟩ := hCI.some_ hd
  rw [List.append_nil] at he
  have := (stf_one he).1
  exact ⟨e.1, e.2, by unfold After; omega, hr⟩
/-- A started wait stood nowhere. -/
theorem started_new (h : PLn C TT cur) {e : Nat × Nat} (he : e ∈ stf (TT s) C X) : e ∈ X ∧ ¬ WA (puni cur 4 0 0) e.1 e.2 := by
  unfold stf at he
  obtain ⟨h1, h2⟩ := List.mem_filter.1 he
  simp at h2
  exact ⟨h1, fun hw => (h.uni.1 hw) h2.2⟩
end

end Go.Proofs.Qxb6003670a.st
