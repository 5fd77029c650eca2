/-
  THE PLAIN LAW OF 'countClosings': no Go in sight.
-/
import Derived.Test.Qxb6003670aClosure
namespace Go.Proofs.Qxb6003670a.pl

/-- How often (u, v) stands in the list. -/
def occ (u v : Nat) : List (Nat × Nat) → Int
  | [] => 0
  | e :: r => (if e.1 = u ∧ e.2 = v then 1 else 0) + occ u v r
/-- The counts C without the list's. -/
def subL (C : Nat → Nat → Int) (L : List (Nat × Nat)) : Nat → Nat → Int := fun u v => C u v - occ u v L
/-- The graph of the counts. -/
def After (C : Nat → Nat → Int) (u v : Nat) : Prop := C u v ≠ 0
/-- .. without the edges that are still to come back. -/
def Hb (C : Nat → Nat → Int) (R : List (Nat × Nat)) (u v : Nat) : Prop := C u v ≠ 0 ∧ (u, v) ∉ R

theorem occ_append (u v : Nat) (A B : List (Nat × Nat)) : occ u v (A ++ B) = occ u v A + occ u v B := by
  induction A with
  | nil => simp [occ]
  | cons e r ih => simp only [List.cons_append, occ, ih]; omega
theorem occ_nonneg (u v : Nat) (A : List (Nat × Nat)) : 0 ≤ occ u v A := by
  induction A with
  | nil => simp [occ]
  | cons e r ih => unfold occ; split <;> omega
theorem occ_zero {u v : Nat} {A : List (Nat × Nat)} (h : (u, v) ∉ A) : occ u v A = 0 := by
  induction A with
  | nil => rfl
  | cons e r ih =>
    simp only [List.mem_cons, not_or] at h
    unfold occ
    rw [ih h.2, if_neg (fun k => h.1 (by rw [← k.1, ← k.2]))]
    rfl
theorem occ_le (u v : Nat) (A : List (Nat × Nat)) : occ u v A ≤ A.length := by
  induction A with
  | nil => simp [occ]
  | cons e r ih => unfold occ; simp only [List.length_cons]; split <;> omega

theorem Rch.part {H H0 : Nat → Nat → Prop} {F : Nat × Nat → Prop} (hH : ∀ u v, H u v → H0 u v ∨ F (u, v)) {x y : Nat} (h : Rch H x y) :
    Rch H0 x y ∨ ∃ f, F f ∧ Rch H x f.1 ∧ Rch H f.2 y := by
  have h2 : Rch H x y ∧ (Rch H0 x y ∨ ∃ f, F f ∧ Rch H x f.1 ∧ Rch H f.2 y) := by
    refine h (fun z => Rch H x z ∧ (Rch H0 x z ∨ ∃ f, F f ∧ Rch H x f.1 ∧ Rch H f.2 z)) ⟨Rch.refl _ _, Or.inl (Rch.refl _ _)⟩ ?_
    rintro u v ⟨hr, hu⟩ e
    refine ⟨hr.step e, ?_⟩
    rcases hu with hu | ⟨f, hf, h1, h2⟩
    · rcases hH u v e with h3 | h3
      · exact Or.inl (hu.step h3)
      · exact Or.inr ⟨(u, v), h3, hr, Rch.refl _ _⟩
    · exact Or.inr ⟨f, hf, h1, h2.step e⟩
  exact h2.2

/-- BETWEEN TWO GROUPS: A has come back, R has not; d closings so far. -/
structure CI (C : Nat → Nat → Int) (A R : List (Nat × Nat)) (d : Nat) : Prop where
  none_ : d = 0 → ∀ e ∈ A, e ∉ R → ¬ Rch (Hb C R) e.2 e.1
  some_ : 0 < d → ∃ e ∈ A ++ R, Rch (After C) e.2 e.1
  few : d ≤ cnt (fun u => A.any (fun e => e.1 == u)) 8
  bound : ∀ e ∈ A, ∀ e' ∈ R, e.1 < e'.1

theorem CI.start (C : Nat → Nat → Int) (L : List (Nat × Nat)) : CI C [] L 0 := by
  refine ⟨fun _ e h => ?_, fun h => ?_, Nat.zero_le _, fun e h => ?_⟩
  · simp at h
  · omega
  · simp at h

section
variable {C : Nat → Nat → Int} {A B D : List (Nat × Nat)} {d u : Nat}

theorem hb_sub (x y : Nat) (h : Hb C D x y) : After (subL C D) x y := by
  unfold After subL
  rw [occ_zero h.2]
  have := h.1
  omega
theorem sub_after (hOne : ∀ e ∈ D, C e.1 e.2 = 1) (x y : Nat) (h : After (subL C D) x y) : After C x y := by
  unfold After subL at *
  by_cases hm : (x, y) ∈ D
  · have := hOne _ hm
    simp only at this
    omega
  · rw [occ_zero hm] at h
    omega

theorem any_iff (A : List (Nat × Nat)) (u : Nat) : A.any (fun e => e.1 == u) = true ↔ ∃ e ∈ A, e.1 = u := by
  simp [List.any_eq_true]

theorem CI.miss (h : CI C A (B ++ D) d) (hOne : ∀ e ∈ A ++ (B ++ D), C e.1 e.2 = 1) (hB : ∀ e ∈ B, e.1 = u) (hD : ∀ e ∈ D, u < e.1)
    (hm : ∀ e ∈ B, ¬ Rch (After (subL C D)) e.2 u) : CI C (A ++ B) D d := by
  refine ⟨fun h0 e he hn hr => ?_, fun h0 => ?_, ?_, fun e he e' he' => ?_⟩
  · by_cases heB : e ∈ B
    · refine hm e heB ?_
      rw [← hB e heB]
      exact hr.mono (fun x y => hb_sub x y)
    · have heA : e ∈ A := by
        rcases List.mem_append.1 he with h1 | h1
        · exact h1
        · exact absurd h1 heB
      have hn2 : e ∉ B ++ D := by simp [heB, hn]
      have hpart : ∀ x y, Hb C D x y → Hb C (B ++ D) x y ∨ (x, y) ∈ B := fun x y hxy => by
        by_cases hxB : (x, y) ∈ B
        · exact Or.inr hxB
        · exact Or.inl ⟨hxy.1, by simp [hxB, hxy.2]⟩
      rcases Rch.part (F := fun f => f ∈ B) hpart hr with h1 | ⟨f, hf, h1, h2⟩
      · exact h.none_ h0 e heA hn2 h1
      · refine hm f hf ?_
        have he0 : Hb C D e.1 e.2 := ⟨by have := hOne e (by simp [heA]); omega, hn⟩
        have : Rch (Hb C D) f.2 f.1 := (h2.step he0).trans h1
        rw [← hB f hf]
        exact this.mono (fun x y => hb_sub x y)
  · obtain ⟨e, he, hr⟩ := h.some_ h0
    exact ⟨e, by simpa using he, hr⟩
  · refine Nat.le_trans h.few (cnt_mono (fun y hy => ?_) 8)
    rw [any_iff] at hy ⊢
    obtain ⟨e, he, h1⟩ := hy
    exact ⟨e, by simp [he], h1⟩
  · rcases List.mem_append.1 he with h1 | h1
    · exact h.bound e h1 e' (by simp [he'])
    · rw [hB e h1]
      exact hD e' he'

theorem CI.hit (h : CI C A (B ++ D) d) (hOne : ∀ e ∈ A ++ (B ++ D), C e.1 e.2 = 1) (hB : ∀ e ∈ B, e.1 = u) (hD : ∀ e ∈ D, u < e.1) (hu : u < 8)
    {e0 : Nat × Nat} (he0 : e0 ∈ B) (hr0 : Rch (After (subL C D)) e0.2 u) : CI C (A ++ B) D (d + 1) := by
  refine ⟨fun h0 => by omega, fun _ => ?_, ?_, fun e he e' he' => ?_⟩
  · refine ⟨e0, by simp [he0], ?_⟩
    rw [hB e0 he0]
    exact hr0.mono (fun x y => sub_after (fun e he => hOne e (by simp [he])) x y)
  · refine Nat.le_trans (Nat.succ_le_succ h.few) (cnt_lt (c := u) (fun y hy => ?_) ?_ ?_ 8 hu)
    · rw [any_iff] at hy ⊢
      obtain ⟨e, he, h1⟩ := hy
      exact ⟨e, by simp [he], h1⟩
    · rw [Bool.eq_false_iff]
      intro hy
      rw [any_iff] at hy
      obtain ⟨e, he, h1⟩ := hy
      have := h.bound e he e0 (by simp [he0])
      rw [hB e0 he0] at this
      omega
    · rw [any_iff]
      exact ⟨e0, by simp [he0], hB e0 he0⟩
  · rcases List.mem_append.1 he with h1 | h1
    · exact h.bound e h1 e' (by simp [he'])
    · rw [hB e h1]
      exact hD e' he'
end

end Go.Proofs.Qxb6003670a.pl
