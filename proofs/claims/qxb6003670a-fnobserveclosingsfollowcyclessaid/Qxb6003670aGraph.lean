/-
  A MAP OF MAPS, WRITTEN: its inner maps lie apart.
-/
import Derived.Test.Qxb6003670aReach
import Derived.Test.Qxb6003670aClosure
namespace Go.Proofs.Qxb6003670a.rc
open Go.RowKit
open Go.Proofs.Qxb6003670a.sm Go.Proofs.Qxb6003670a.mp Go.Proofs.Qxb6003670a.pl
open Go.ChangeMaps (setBlock)

/-- The inner maps lie apart, and apart from the outer one. -/
structure Sep (bo : Nat) (M : Nat → Option Nat) : Prop where
  inj : ∀ u u' c, M u = some c → M u' = some c → u = u'
  out : ∀ u c, M u = some c → bo < c

/-- S, its row u new and empty. -/
def newS (S : Nat → Nat → Option Int) (u : Nat) : Nat → Nat → Option Int := fun x => if x = u then fun _ => none else S x

/-- 'inner = make(..); out[u] = inner'. -/
theorem Graph.newInner {w : World} {bo u : Nat} {M : Nat → Option Nat} {S : Nat → Nat → Option Int} (h : Graph w bo M S) (hs : Sep bo M) (hu : u < 10) :
    ∃ w2, (Instr.mapUpdate 27 (.map (some bo)) (.string (nd u)) (.map (some w.heap.size))).run Try.prog (w.alloc (.map #[] 0)) = .ok () w2 ∧
      Graph w2 bo (put M u w.heap.size) (newS S u) ∧ Sep bo (put M u w.heap.size) ∧ w.grownBy w2 (some bo) ∧ w2.heap.size = w.heap.size + 1 := by
  have h1 : IsMap ndV D10 mapV (w.alloc (.map #[] 0)) bo M := h.1.kept (heap_alloc_old w _ h.1.lt)
  obtain ⟨o, hr, hm⟩ := h1.store keyN Try.underlying27 (a := u) hu w.heap.size
  have hg := h1.grown o
  have hlt : ∀ x c, M x = some c → c < w.heap.size := fun x c hc => (h.2 x c hc).lt
  refine ⟨_, hr, ⟨hm, fun x c hc => ?_⟩, ⟨fun x x' c hx hx' => ?_, fun x c hc => ?_⟩, (World.grownBy_alloc w _ (some bo)).trans hg, by simp [setBlock]⟩
  · unfold put at hc
    unfold newS
    by_cases e : x = u
    · rw [if_pos e] at hc
      cases hc
      rw [if_pos e]
      exact (IsMap.made ndV D10 intV w).kept (hg.block _ (by simp) (by simp; have := h.1.lt; omega))
    · rw [if_neg e] at hc
      rw [if_neg e]
      have hc2 := hlt x c hc
      exact ((h.2 x c hc).kept (heap_alloc_old w _ hc2)).kept (hg.block _ (by simp; omega) (by have := hs.out x c hc; simp; omega))
  · unfold put at hx hx'
    by_cases e : x = u <;> by_cases e' : x' = u
    · rw [e, e']
    · rw [if_pos e] at hx
      rw [if_neg e'] at hx'
      cases hx
      exact absurd (hlt x' _ hx') (by omega)
    · rw [if_neg e] at hx
      rw [if_pos e'] at hx'
      cases hx'
      exact absurd (hlt x _ hx) (by omega)
    · rw [if_neg e] at hx
      rw [if_neg e'] at hx'
      exact hs.inj x x' c hx hx'
  · unfold put at hc
    by_cases e : x = u
    · rw [if_pos e] at hc
      cases hc
      exact h.1.lt
    · rw [if_neg e] at hc
      exact hs.out x c hc

/-- S with k at (u, v). -/
def setS (S : Nat → Nat → Option Int) (u v : Nat) (k : Int) : Nat → Nat → Option Int := fun x => if x = u then put (S u) v k else S x

/-- 'inner[v] = k'. -/
theorem Graph.setInner {w : World} {bo u v c : Nat} {M : Nat → Option Nat} {S : Nat → Nat → Option Int} (h : Graph w bo M S) (hs : Sep bo M) (hM : M u = some c) (hv : v < 10) (k : Int) :
    ∃ w2, (Instr.mapUpdate 30 (.map (some c)) (.string (nd v)) (.int .i64 k)).run Try.prog w = .ok () w2 ∧ Graph w2 bo M (setS S u v k) ∧ w.grownBy w2 (some c) ∧ w2.heap.size = w.heap.size := by
  obtain ⟨o, hr, hm⟩ := (h.2 u c hM).store keyN Try.underlying30 (a := v) hv k
  have hg := (h.2 u c hM).grown o
  refine ⟨_, hr, ⟨h.1.kept (hg.block _ h.1.lt (by have := hs.out u c hM; simp; omega)), fun x c' hc => ?_⟩, hg, by simp [setBlock]⟩
  unfold setS
  by_cases e : x = u
  · subst e
    rw [hM] at hc
    cases hc
    rw [if_pos rfl]
    exact hm
  · rw [if_neg e]
    refine (h.2 x c' hc).kept (hg.block _ (h.2 x c' hc).lt ?_)
    simp
    intro e1
    subst e1
    exact e (hs.inj x u c' hc hM)

/-- Edges behind the two. -/
theorem Edge.new {M : Nat → Option Nat} {S : Nat → Nat → Option Int} {u c : Nat} (hM : M u = none) (x y : Nat) : Edge (put M u c) (newS S u) x y ↔ Edge M S x y := by
  unfold Edge put newS
  by_cases e : x = u
  · subst e; simp [hM]
  · simp [e]
theorem Edge.set {M : Nat → Option Nat} {S : Nat → Nat → Option Int} {u v c : Nat} (hM : M u = some c) (k : Int) (x y : Nat) : Edge M (setS S u v k) x y ↔ (Edge M S x y ∨ (x = u ∧ y = v)) := by
  unfold Edge setS put
  by_cases e : x = u
  · subst e
    by_cases e2 : y = v
    · subst e2; simp [hM]
    · simp [e2]
  · simp [e]

theorem from_n (b : Int) (u : Nat) (h0 : 0 ≤ b) (h1 : b < 256) (hu : b % 8 = (u : Int)) (w : World) :
    Calls Try.prog 11 #[.int .u8 b] w fun e w' => e = .returned (.int .i64 (u : Int)) ∧ w' = w := by
  rw [← hu]; exact from_any b h0 h1 w
theorem to_n (b : Int) (u : Nat) (h0 : 0 ≤ b) (h1 : b < 256) (hu : b / 8 % 8 = (u : Int)) (w : World) :
    Calls Try.prog 12 #[.int .u8 b] w fun e w' => e = .returned (.int .i64 (u : Int)) ∧ w' = w := by
  rw [← hu]; exact to_any b h0 h1 w

end Go.Proofs.Qxb6003670a.rc
