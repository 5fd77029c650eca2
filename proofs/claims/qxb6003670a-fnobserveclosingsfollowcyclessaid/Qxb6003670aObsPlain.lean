/-
  WHAT 'observe' RECKONS: plain.
-/
import Derived.Test.Qxb6003670aClose
namespace Go.Proofs.Qxb6003670a.pl
open Go.Proofs.Qxb6003670a.mp (put cut)

/-- The waits of a snapshot, in order. -/
def flat (PS : List (Nat × List Nat)) : List (Nat × Nat) := PS.flatMap (fun p => p.2.map (fun v => (p.1, v)))
/-- 'stand', behind the waits X. -/
def tsf (T : Nat × Nat → Option Int) (now : Int) (X : List (Nat × Nat)) : Nat × Nat → Option Int := fun e => if e ∈ X then some ((T e).getD now) else none
/-- 'started', behind the waits X. -/
def stf (T : Nat × Nat → Option Int) (C : Nat → Nat → Int) (X : List (Nat × Nat)) : List (Nat × Nat) := X.filter (fun e => (T e).isNone && C e.1 e.2 == 0)
def b2i (b : Bool) : Int := if b = true then 1 else 0

theorem tsf_snoc (T : Nat × Nat → Option Int) (now : Int) (X : List (Nat × Nat)) (e : Nat × Nat) : put (tsf T now X) e ((T e).getD now) = tsf T now (X ++ [e]) := by
  funext x
  unfold put tsf
  by_cases h : x = e
  · subst h; simp
  · by_cases h2 : x ∈ X <;> simp [h, h2]
theorem stf_snoc (T : Nat × Nat → Option Int) (C : Nat → Nat → Int) (X : List (Nat × Nat)) (e : Nat × Nat) : stf T C (X ++ [e]) = stf T C X ++ (if ((T e).isNone && C e.1 e.2 == 0) = true then [e] else []) := by
  unfold stf
  rw [List.filter_append]
  by_cases h : ((T e).isNone && C e.1 e.2 == 0) = true
  · rw [if_pos h]; simp [h]
  · rw [if_neg h]; simp [h]
theorem flat_snoc (PS : List (Nat × List Nat)) (i : Nat) (h : i < PS.length) : flat (PS.take (i + 1)) = flat (PS.take i) ++ (PS[i].2).map (fun v => (PS[i].1, v)) := by
  unfold flat
  rw [List.take_succ_eq_append_getElem h, List.flatMap_append]
  simp
theorem map_snoc (u : Nat) (vs : List Nat) (j : Nat) (h : j < vs.length) : (vs.take (j + 1)).map (fun v => (u, v)) = (vs.take j).map (fun v => (u, v)) ++ [(u, vs[j])] := by
  rw [List.take_succ_eq_append_getElem h, List.map_append]
  rfl

/-- The counts behind the snapshot. -/
def newC (C : Nat → Nat → Int) (T : Nat × Nat → Option Int) (X : List (Nat × Nat)) : Nat → Nat → Int := fun u v => C u v - b2i (T (u, v)).isSome + b2i (decide ((u, v) ∈ X))

theorem tsf_isSome (T : Nat × Nat → Option Int) (now : Int) (X : List (Nat × Nat)) (e : Nat × Nat) : (tsf T now X e).isSome = decide (e ∈ X) := by
  unfold tsf
  by_cases h : e ∈ X <;> simp [h]

theorem stf_one {T : Nat × Nat → Option Int} {C : Nat → Nat → Int} {X : List (Nat × Nat)} {e : Nat × Nat} (h : e ∈ stf T C X) : newC C T X e.1 e.2 = 1 ∧ e ∈ X := by
  unfold stf at h
  obtain ⟨h1, h2⟩ := List.mem_filter.1 h
  simp at h2
  refine ⟨?_, h1⟩
  unfold newC b2i
  rw [h2.1, h2.2]
  simp [h1]

end Go.Proofs.Qxb6003670a.pl
