/-
  THE PLAIN LAW OF THE CLOSURE BY ROUNDS: no Go in sight.
-/
import Derived.Test.Qxb6003670aPlain
namespace Go.Proofs.Qxb6003670a.pl

/-- How many y below n lie in the row. -/
def cnt (r : Nat → Bool) : Nat → Nat
  | 0 => 0
  | n + 1 => cnt r n + if r n = true then 1 else 0

theorem cnt_le (r : Nat → Bool) : ∀ n, cnt r n ≤ n
  | 0 => Nat.le_refl _
  | n + 1 => by have := cnt_le r n; unfold cnt; split <;> omega

theorem cnt_mono {r s : Nat → Bool} (h : ∀ y, r y = true → s y = true) : ∀ n, cnt r n ≤ cnt s n
  | 0 => Nat.le_refl _
  | n + 1 => by
    have := cnt_mono h n
    unfold cnt
    by_cases e : r n = true
    · rw [if_pos e, if_pos (h n e)]; omega
    · rw [if_neg e]; omega

theorem cnt_lt {r s : Nat → Bool} (h : ∀ y, r y = true → s y = true) {c : Nat} (hr : r c = false) (hs : s c = true) : ∀ n, c < n → cnt r n + 1 ≤ cnt s n
  | 0, hc => by omega
  | n + 1, hc => by
    unfold cnt
    by_cases e : c = n
    · subst e
      have := cnt_mono h c
      simp [hr, hs]
      omega
    · have := cnt_lt h hr hs n (by omega)
      by_cases e2 : r n = true
      · rw [if_pos e2, if_pos (h n e2)]; omega
      · rw [if_neg e2]; omega

/-- Row x of the matrix holds all that x reaches, or at least k. -/
def Full (E : Nat → Nat → Prop) (r : Nat → Nat → Bool) (k : Nat) : Prop := ∀ x, x < 10 → (∀ y, Rch E x y → r x y = true) ∨ k ≤ cnt (r x) 10
/-- The matrix holds nothing else. -/
def Sound (E : Nat → Nat → Prop) (r : Nat → Nat → Bool) : Prop := ∀ x y, r x y = true → Rch E x y

theorem Full.start {E : Nat → Nat → Prop} {r : Nat → Nat → Bool} (h : ∀ x, x < 10 → r x x = true) : Full E r 1 := by
  intro x hx
  right
  have := cnt_lt (r := fun _ => false) (s := r x) (fun y h => by cases h) (c := x) rfl (h x hx) 10 hx
  omega

theorem Full.round {E : Nat → Nat → Prop} {r0 r : Nat → Nat → Bool} {k : Nat} (hE : ∀ u v, E u v → v < 10) (h : Full E r0 k) (hd : ∀ x, x < 10 → r0 x x = true) (hm : ∀ x y, r0 x y = true → r x y = true)
    (hs : ∀ x a c, x < 10 → r0 x a = true → E a c → r x c = true) : Full E r (k + 1) := by
  intro x hx
  rcases h x hx with h1 | h1
  · exact Or.inl (fun y hy => hm x y (h1 y hy))
  · by_cases hc : ∃ a c, r0 x a = true ∧ E a c ∧ r0 x c = false
    · obtain ⟨a, c, ha, he, hf⟩ := hc
      right
      have := cnt_lt (r := r0 x) (s := r x) (hm x) hf (hs x a c hx ha he) 10 (hE a c he)
      omega
    · left
      intro y hy
      refine hm x y (hy (fun y => r0 x y = true) (hd x hx) (fun u v hu e => ?_))
      cases hv : r0 x v with
      | true => rfl
      | false => exact absurd ⟨u, v, hu, e, hv⟩ hc

theorem Full.last {E : Nat → Nat → Prop} {r : Nat → Nat → Bool} (h : Full E r 11) (hs : Sound E r) {x y : Nat} (hx : x < 10) : r x y = true ↔ Rch E x y := by
  constructor
  · exact hs x y
  · intro hr
    rcases h x hx with h1 | h1
    · exact h1 y hr
    · have := cnt_le (r x) 10
      omega

end Go.Proofs.Qxb6003670a.pl
