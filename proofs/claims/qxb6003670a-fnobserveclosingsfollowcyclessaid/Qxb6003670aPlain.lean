/-
  THE PLAIN LAWS OF A SEARCH OVER A GRAPH: no Go in sight.
-/
import Derived.Test.Qxb6003670aMaps
namespace Go.Proofs.Qxb6003670a.pl
open Go.Proofs.Qxb6003670a.mp (put cut)

/-- j lies in every set that holds i and is shut under E. -/
def Rch (E : Nat → Nat → Prop) (i j : Nat) : Prop := ∀ X : Nat → Prop, X i → (∀ u v, X u → E u v → X v) → X j

theorem Rch.refl (E : Nat → Nat → Prop) (i : Nat) : Rch E i i := fun _ h _ => h
theorem Rch.step {E : Nat → Nat → Prop} {i u v : Nat} (h : Rch E i u) (e : E u v) : Rch E i v := fun X h0 hs => hs u v (h X h0 hs) e
theorem Rch.trans {E : Nat → Nat → Prop} {i u v : Nat} (h : Rch E i u) (k : Rch E u v) : Rch E i v := fun X h0 hs => k X (h X h0 hs) hs
theorem Rch.mono {E F : Nat → Nat → Prop} (hEF : ∀ u v, E u v → F u v) {i j : Nat} (h : Rch E i j) : Rch F i j := fun X h0 hs => h X h0 (fun u v hu e => hs u v hu (hEF u v e))

/-- How many below n are not seen. -/
def unseen (sn : Nat → Option Bool) : Nat → Nat
  | 0 => 0
  | n + 1 => unseen sn n + if (sn n).isNone = true then 1 else 0

theorem unseen_put (sn : Nat → Option Bool) (v : Nat) (hn : sn v = none) : ∀ n, unseen (put sn v true) n + (if v < n then 1 else 0) = unseen sn n
  | 0 => by simp [unseen]
  | n + 1 => by
    have ih := unseen_put sn v hn n
    unfold unseen
    by_cases e : n = v
    · subst e
      have h1 : (put sn n true) n = some true := by simp [put]
      rw [if_neg (show ¬ n < n by omega)] at ih
      simp only [h1, hn]
      simp
      omega
    · have h1 : (put sn v true) n = sn n := by simp [put, e]
      rw [h1]
      by_cases h2 : v < n
      · rw [if_pos h2] at ih
        rw [if_pos (show v < n + 1 by omega)]
        omega
      · rw [if_neg h2] at ih
        rw [if_neg (show ¬ v < n + 1 by omega)]
        omega

theorem unseen_le (sn : Nat → Option Bool) : ∀ n, unseen sn n ≤ n
  | 0 => Nat.le_refl _
  | n + 1 => by
    have := unseen_le sn n
    unfold unseen
    split <;> omega

/-- THE SEARCH, BETWEEN TWO POPS: L the stack, sn what is seen. -/
structure Inv (E : Nat → Nat → Prop) (i j : Nat) (L : List Nat) (sn : Nat → Option Bool) : Prop where
  start : sn i ≠ none
  reach : ∀ v, sn v ≠ none → v < 10 ∧ sn v = some true ∧ Rch E i v
  stack : ∀ v ∈ L, sn v ≠ none
  past : ∀ v, sn v ≠ none → v ∉ L → v ≠ j ∧ ∀ x, E v x → sn x ≠ none

/-- .. WHILE u's NEIGHBOURS ARE LOOKED AT: 'left x': x is still to come. -/
structure Mid (E : Nat → Nat → Prop) (i j u : Nat) (L : List Nat) (sn : Nat → Option Bool) (left : Nat → Bool) : Prop where
  start : sn i ≠ none
  reach : ∀ v, sn v ≠ none → v < 10 ∧ sn v = some true ∧ Rch E i v
  stack : ∀ v ∈ L, sn v ≠ none
  past : ∀ v, sn v ≠ none → v ∉ L → v ≠ u → v ≠ j ∧ ∀ x, E v x → sn x ≠ none
  here : sn u ≠ none ∧ u ≠ j
  next : ∀ x, E u x → left x = true ∨ sn x ≠ none

variable {E : Nat → Nat → Prop} {i j u : Nat} {L : List Nat} {sn : Nat → Option Bool} {left : Nat → Bool}

theorem Inv.begin (hi : i < 10) (hs : ∀ v, sn v = if v = i then some true else none) : Inv E i j [i] sn := by
  refine ⟨by rw [hs]; simp, fun v hv => ?_, fun v hv => ?_, fun v hv hL => ?_⟩
  · by_cases e : v = i
    · subst e; exact ⟨hi, by rw [hs]; simp, Rch.refl _ _⟩
    · rw [hs, if_neg e] at hv; exact absurd rfl hv
  · simp at hv; subst hv; rw [hs]; simp
  · by_cases e : v = i
    · subst e; simp at hL
    · rw [hs, if_neg e] at hv; exact absurd rfl hv

/-- The one popped is j. -/
theorem Inv.found (h : Inv E i j (L ++ [j]) sn) : Rch E i j := (h.reach j (h.stack j (by simp))).2.2

/-- The stack is empty. -/
theorem Inv.ended (h : Inv E i j [] sn) : ¬ Rch E i j := by
  intro r
  have := r (fun v => sn v ≠ none) h.start (fun a b ha e => (h.past a ha (by simp)).2 b e)
  exact (h.past j this (by simp)).1 rfl

/-- A pop. -/
theorem Inv.pop (h : Inv E i j (L ++ [u]) sn) (hu : u ≠ j) (hl : ∀ x, E u x → left x = true) : Mid E i j u L sn left :=
  ⟨h.start, h.reach, fun v hv => h.stack v (by simp [hv]), fun v hv hL hne => h.past v hv (by simp [hL, hne]), ⟨h.stack u (by simp), hu⟩, fun x e => Or.inl (hl x e)⟩

/-- All neighbours have been looked at. -/
theorem Mid.done (h : Mid E i j u L sn left) (hl : ∀ x, left x = false) : Inv E i j L sn := by
  refine ⟨h.start, h.reach, h.stack, fun v hv hL => ?_⟩
  by_cases e : v = u
  · subst e
    refine ⟨h.here.2, fun x ex => ?_⟩
    rcases h.next x ex with k | k
    · rw [hl x] at k; cases k
    · exact k
  · exact h.past v hv hL e

/-- A neighbour that is seen already. -/
theorem Mid.old (h : Mid E i j u L sn left) {a : Nat} (ha : sn a ≠ none) : Mid E i j u L sn (fun x => left x && !decide (x = a)) := by
  refine ⟨h.start, h.reach, h.stack, h.past, h.here, fun x e => ?_⟩
  rcases h.next x e with k | k
  · by_cases ea : x = a
    · subst ea; exact Or.inr ha
    · left; simp [k, ea]
  · exact Or.inr k

/-- A neighbour that is new. -/
theorem Mid.new (h : Mid E i j u L sn left) {a : Nat} (ha : sn a = none) (ha10 : a < 10) (hE : E u a) : Mid E i j u (L ++ [a]) (put sn a true) (fun x => left x && !decide (x = a)) := by
  have hp : ∀ v, sn v ≠ none → put sn a true v ≠ none := fun v hv => by
    by_cases e : v = a
    · subst e; exact absurd ha hv
    · simpa [put, e] using hv
  refine ⟨hp i h.start, fun v hv => ?_, fun v hv => ?_, fun v hv hL hne => ?_, ⟨hp u h.here.1, h.here.2⟩, fun x e => ?_⟩
  · by_cases e : v = a
    · subst e
      exact ⟨ha10, by simp [put], ((h.reach u h.here.1).2.2).step hE⟩
    · have : put sn a true v = sn v := by simp [put, e]
      rw [this] at hv ⊢
      exact h.reach v hv
  · simp at hv
    rcases hv with hv | rfl
    · exact hp v (h.stack v hv)
    · simp [put]
  · have e : v ≠ a := fun e => hL (by simp [e])
    have : put sn a true v = sn v := by simp [put, e]
    rw [this] at hv
    have := h.past v hv (fun k => hL (by simp [k])) hne
    exact ⟨this.1, fun x ex => hp x (this.2 x ex)⟩
  · rcases h.next x e with k | k
    · by_cases ea : x = a
      · subst ea; right; simp [put]
      · left; simp [k, ea]
    · exact Or.inr (hp x k)

end Go.Proofs.Qxb6003670a.pl
